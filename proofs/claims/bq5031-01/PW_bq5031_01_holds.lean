import PyProof.Rows.All
import Wide.All
import OpenK.AllK
import Wide.FinOn
import PySem.Challenge.RW_bq5031_01

open PySem PySem.W PyProof.Rows
set_option Elab.async false
set_option maxRecDepth 100000
set_option maxHeartbeats 8000000
namespace Mine
open_top hd for PySem.Challenge.rw_bq5031_01
end Mine

set_option Elab.async false
set_option maxRecDepth 100000
open PySem PySem.W PyProof.Rows PySem.Calls
namespace Mine

/-! ## pure rows -/

abbrev Rw := List (Str × Int)
def put : Rw → Str → Int → Rw
  | [], k, v => [(k, v)]
  | (k', v') :: r, k, v => if k' = k then (k', v) :: r else (k', v') :: put r k v
def mergeR (a b : Rw) : Rw := b.foldl (fun acc p => put acc p.1 p.2) a

def keysL : List Str := [Str.ofString "a", Str.ofString "b", Str.ofString "c", Str.ofString "e"]
def OkR (r : Str × Int) : Prop := r.1 ∈ keysL ∧ 0 ≤ r.2 ∧ r.2 < 9
structure OkRs (rs : Rw) : Prop where
  ok : ∀ r ∈ rs, OkR r
  nd : (rs.map (·.1)).Nodup

theorem put_keys_mem {rs : Rw} {k : Str} {v : Int} (h : k ∈ rs.map (·.1)) : (put rs k v).map (·.1) = rs.map (·.1) := by
  induction rs with
  | nil => simp at h
  | cons p r ih =>
    obtain ⟨k', v'⟩ := p
    unfold put
    by_cases e : k' = k
    · rw [if_pos e]; rfl
    · rw [if_neg e]
      simp only [List.map_cons, List.mem_cons] at h ⊢
      rw [ih (h.resolve_left fun q => e q.symm)]
theorem put_new {rs : Rw} {k : Str} {v : Int} (h : k ∉ rs.map (·.1)) : put rs k v = rs ++ [(k, v)] := by
  induction rs with
  | nil => rfl
  | cons p r ih =>
    obtain ⟨k', v'⟩ := p
    simp only [List.map_cons, List.mem_cons, not_or] at h
    unfold put
    rw [if_neg fun e => h.1 e.symm, ih h.2]; rfl
theorem put_mem {rs : Rw} {k : Str} {v : Int} : ∀ r ∈ put rs k v, r = (k, v) ∨ r ∈ rs := by
  induction rs with
  | nil => intro r hr; simp only [put, List.mem_singleton] at hr; exact .inl hr
  | cons p r ih =>
    obtain ⟨k', v'⟩ := p
    intro x hx
    unfold put at hx
    by_cases e : k' = k
    · rw [if_pos e] at hx
      rcases List.mem_cons.mp hx with q | q
      · exact .inl (by rw [q, e])
      · exact .inr (.tail _ q)
    · rw [if_neg e] at hx
      rcases List.mem_cons.mp hx with q | q
      · exact .inr (q ▸ .head _)
      · exact (ih x q).imp id (.tail _)
theorem OkRs.put {rs : Rw} {k : Str} {v : Int} (h : OkRs rs) (hk : OkR (k, v)) : OkRs (put rs k v) := by
  refine ⟨fun r hr => (put_mem r hr).elim (fun e => e ▸ hk) (h.ok r), ?_⟩
  by_cases q : k ∈ rs.map (·.1)
  · rw [put_keys_mem q]; exact h.nd
  · rw [put_new q, List.map_append, List.nodup_append]
    exact ⟨h.nd, by simp, fun a ha b hb e => by
      simp only [List.map_cons, List.map_nil, List.mem_singleton] at hb
      exact q (hb ▸ e ▸ ha)⟩
theorem OkRs.nil : OkRs [] := ⟨fun _ h => (nomatch h), List.nodup_nil⟩
theorem mergeR_nil (rs : Rw) : mergeR rs [] = rs := rfl
theorem mergeR_cons (rs : Rw) (p : Str × Int) (r : Rw) : mergeR rs (p :: r) = mergeR (put rs p.1 p.2) r := rfl
theorem OkRs.merge : ∀ {b a : Rw}, OkRs a → (∀ r ∈ b, OkR r) → OkRs (mergeR a b)
  | [], _, h, _ => h
  | p :: r, a, h, hb => by
    rw [mergeR_cons]
    exact OkRs.merge (h.put (hb p (.head _))) fun x hx => hb x (.tail _ hx)
theorem mergeR_append : ∀ (b a : Rw), ((a ++ b).map (·.1)).Nodup → mergeR a b = a ++ b
  | [], a, _ => by simp [mergeR]
  | p :: r, a, h => by
    have hn : p.1 ∉ a.map (·.1) := fun q => by
      rw [List.map_append, List.map_cons, List.nodup_append] at h
      exact h.2.2 _ q _ (.head _) rfl
    rw [mergeR_cons, put_new hn, mergeR_append r]
    · simp
    · simpa using h
theorem mergeR_of_nil {rs : Rw} (h : OkRs rs) : mergeR [] rs = rs := by
  rw [mergeR_append rs [] (by simpa using h.nd)]; rfl

theorem nodup_length_le {α : Type} [DecidableEq α] : ∀ (l m : List α), l.Nodup → (∀ x ∈ l, x ∈ m) → l.length ≤ m.length
  | [], _, _, _ => Nat.zero_le _
  | a :: r, m, hn, hm => by
    obtain ⟨h1, h2⟩ := List.nodup_cons.mp hn
    have ha := hm a (.head _)
    have := nodup_length_le r (m.erase a) h2 fun x hx => (List.mem_erase_of_ne (fun e => h1 (by rw [← e]; exact hx))).mpr (hm x (.tail _ hx))
    rw [List.length_erase_of_mem ha] at this
    have : 0 < m.length := List.length_pos_of_mem ha
    simp only [List.length_cons]; omega
theorem OkRs.len {rs : Rw} (h : OkRs rs) : rs.length ≤ 4 := by
  have := nodup_length_le (rs.map (·.1)) keysL h.nd fun x hx => by
    obtain ⟨r, hr, rfl⟩ := List.mem_map.mp hx
    exact (h.ok r hr).1
  simpa [keysL] using this

/-! ## entries -/

def rowOf (e : DictEntry) : Str × Int :=
  (match e.key with | .str x _ => x | _ => Str.empty, match e.val with | .int i _ => i | _ => 0)
def EntOk (w : World) (e : DictEntry) : Prop := ∃ x t v t', e = ⟨hashStr w x, .str x t, .int v t'⟩
structure RowsIn (w : World) (es : Array DictEntry) (rs : Rw) : Prop where
  ent : ∀ e ∈ es.toList, EntOk w e
  rows : es.toList.map rowOf = rs
  ok : OkRs rs

theorem RowsIn.nil (w : World) : RowsIn w #[] [] := ⟨fun _ h => (nomatch h), rfl, .nil⟩
theorem RowsIn.size {w : World} {es : Array DictEntry} {rs : Rw} (R : RowsIn w es rs) : es.size = rs.length := by
  rw [← R.rows]; simp
theorem RowsIn.size_le {w : World} {es : Array DictEntry} {rs : Rw} (R : RowsIn w es rs) : es.size ≤ 4 := R.size ▸ R.ok.len
theorem RowsIn.keysOf {w : World} {prog : Program} {es : Array DictEntry} {rs : Rw} (R : RowsIn w es rs) : KeysOf (strKind prog w) es := fun e he => by
  obtain ⟨x, t, v, t', rfl⟩ := R.ent e (Array.mem_toList_iff.mpr he)
  exact ⟨x, strKind_is prog w x t, rfl⟩

theorem putL_rows {w : World} {k : Str} {t : Tok} {v : Int} {tv : Tok} : ∀ {l : List DictEntry}, (∀ e ∈ l, EntOk w e) →
    (∀ e ∈ putL k (hashStr w k) (.str k t) (.int v tv) l, EntOk w e) ∧ (putL k (hashStr w k) (.str k t) (.int v tv) l).map rowOf = put (l.map rowOf) k v
  | [], _ => ⟨fun e he => by
      simp only [putL, List.mem_singleton] at he
      exact ⟨k, t, v, tv, he⟩, rfl⟩
  | e :: r, h => by
    obtain ⟨x, t₁, v₁, t₂, he⟩ := h e (.head _)
    obtain ⟨h1, h2⟩ := putL_rows (w := w) (k := k) (t := t) (v := v) (tv := tv) (l := r) fun y hy => h y (.tail _ hy)
    subst he
    unfold putL
    have hs : Value.isStr (.str x t₁) k = (x == k) := rfl
    simp only [hs, List.map_cons]
    show (∀ e ∈ (if (x == k) = true then _ else _), EntOk w e) ∧ _ = put ((x, v₁) :: r.map rowOf) k v
    unfold put
    by_cases q : x = k
    · subst q
      simp only [beq_self_eq_true, if_true]
      exact ⟨fun y hy => (List.mem_cons.mp hy).elim (fun e => ⟨x, t₁, v, tv, e⟩) fun m => h y (.tail _ m), rfl⟩
    · have : (x == k) = false := beq_eq_false_iff_ne.mpr q
      simp only [this, if_neg q, Bool.false_eq_true, if_false]
      exact ⟨fun y hy => (List.mem_cons.mp hy).elim (fun e => ⟨x, t₁, v₁, t₂, e⟩) fun m => h1 y m, by rw [List.map_cons, h2]; rfl⟩

section
variable {w : World} {A : Around} {E : Value → Shared → Prop} {s : Shared} {prog : Program}

theorem dictSetHashed_rows {d : Addr} {c : Value} {dd : Option Addr} {sl : Array (Option Value)} {es : Array DictEntry} {ep : Nat} {rs : Rw} {k : Str} {t : Tok} {v : Int} {tv : Tok} {Q : Unit → Shared → Prop}
    (hd : s.heap.get? d = some ⟨c, dd, .dict es ep, sl⟩) (R : RowsIn w es rs) (hk : OkR (k, v))
    (h : ∀ h' es' ep', h'.get? d = some ⟨c, dd, .dict es' ep', sl⟩ → RowsIn w es' (put rs k v) → Heap.SameBut d s.heap h' → Q () { s with heap := h' }) :
    wpAny (model prog w) A (dictSetHashed d (.str k t) (hashStr w k) (.int v tv)) Q E s := by
  unfold dictSetHashed
  refine wpAny_holding (wpAny_bind (wpAny_dictFind_of (knd := strKind prog w) (k := k) (strKind_is prog w k t) hd rfl R.keysOf ?_))
  have hfun : (fun e : DictEntry => (strKind prog w).is k e.key) = fun e => e.key.isStr k := funext fun e => by
    show Value.isStrOf k e.key = _
    cases e.key <;> rfl
  rw [hfun]
  have hL := putL_find k (hashStr w k) (.str k t) (.int v tv) es.toList
  obtain ⟨p1, p2⟩ := putL_rows (w := w) (k := k) (t := t) (v := v) (tv := tv) R.ent
  have fin : RowsIn w (putL k (hashStr w k) (.str k t) (.int v tv) es.toList).toArray (put rs k v) :=
    ⟨by simpa using p1, by simpa [R.rows] using p2, R.ok.put hk⟩
  have hidx : es.findIdx? (fun e => e.key.isStr k) = es.toList.findIdx? (fun e => e.key.isStr k) := by
    obtain ⟨l⟩ := es; simp
  rw [hidx]
  cases hi : es.toList.findIdx? (fun e => e.key.isStr k) with
  | some i =>
    rw [hi] at hL
    refine wpAny_bind (wpAny_rule (wpAny_bind (wpAny_updateDict hd rfl (wpAny_point (h _ _ _ (Heap.get?_update_self _ hd rfl) ?_ (.update ..))))))
    have : es.modify i (fun e => { e with val := .int v tv }) = (putL k (hashStr w k) (.str k t) (.int v tv) es.toList).toArray := by
      rw [← hL]; obtain ⟨l⟩ := es; simp
    refine (?_ : RowsIn w (es.modify i _) _); rw [this]; exact fin
  | none =>
    rw [hi] at hL
    refine wpAny_bind (wpAny_rule (wpAny_updateDictKeys hd rfl (h _ _ _ (Heap.get?_update_self _ hd rfl) ?_ (.update ..)) (hz := ?_)))
    · have : es.push ⟨hashStr w k, .str k t, .int v tv⟩ = (putL k (hashStr w k) (.str k t) (.int v tv) es.toList).toArray := by
        rw [← hL]; obtain ⟨l⟩ := es; simp
      refine (?_ : RowsIn w (es.push _) _); rw [this]; exact fin
    · have := R.size_le; rw [sizeLine_eq]; omega
end

end Mine

set_option Elab.async false
set_option maxRecDepth 100000
open PySem PySem.W PyProof.Rows PySem.Calls
namespace Mine

abbrev Pg : Program := PySem.Challenge.rw_bq5031_01.row.prog
noncomputable abbrev KK (w : World) : Frag := hd.heap_39 w.params

structure Base (w : World) (h : Heap) : Prop where
  k : (KK w).In h
  g : ∃ mg, h.Ns mainGlobals mg
  b : ∃ mb, h.Ns builtinsNs mb ∧ ∀ x : Str, x ≠ "__name__" → mb x = bootBuiltins x
  lim : h.NoLimit
theorem Base.keeps {w : World} {h h' : Heap} (B : Base w h) (k : ∀ b o, h.get? b = some o → h'.get? b = some o) : Base w h' :=
  ⟨B.k.keeps k, let ⟨mg, g⟩ := B.g; ⟨mg, g.keeps k⟩, let ⟨mb, g, e⟩ := B.b; ⟨mb, g.keeps k, e⟩, B.lim.keeps k⟩
theorem base_of_top {w : World} {h : Heap} {p loose mean mg mb} (X : (KK w).In h) (T : Top p loose mean mg mb h) : Base w h :=
  ⟨X, ⟨mg, T.g⟩, ⟨mb, T.b, T.builtins⟩, T.nolimit⟩
theorem at145 (P : Params) : ∃ c d cd sl, List.lookup 145 (hd.heap_39 P) = some ⟨c, d, .cls cd, sl⟩ ∧ cd.hasDel = false ∧ cd.mro = [.ref 145, .type "dict", .type "object"] ∧ cd.hasDict = true ∧ cd.ns = 144 ∧ cd.abstract = false ∧ cd.name = Str.ofString "immutabledict" :=
  ⟨_, _, _, _, rfl, rfl, rfl, rfl, rfl, rfl, rfl⟩
theorem Base.size {w : World} {h : Heap} (B : Base w h) : 145 < h.objs.size := by
  obtain ⟨c, d, cd, sl, e, _⟩ := at145 w.params
  exact Heap.lt_size (B.k 145 _ e)

def clsV (im : Bool) : Value := if im then .ref 145 else .type "dict"

theorem find_len (P : Params) : ∀ im, findIn (hd.heap_39 P) (clsV im) "__len__" = some (some (.builtin "dict.__len__")) := fun im => by cases im <;> kernel_rfl
theorem find_bool (P : Params) : ∀ im, findIn (hd.heap_39 P) (clsV im) "__bool__" = some none := fun im => by cases im <;> kernel_rfl
theorem find_iter (P : Params) : ∀ im, findIn (hd.heap_39 P) (clsV im) "__iter__" = some (some (.builtin "dict.__iter__")) := fun im => by cases im <;> kernel_rfl
theorem find_items (P : Params) : ∀ im, findIn (hd.heap_39 P) (clsV im) "items" = some (some (.builtin "dict.items")) := fun im => by cases im <;> kernel_rfl
theorem find_keys (P : Params) : ∀ im, findIn (hd.heap_39 P) (clsV im) "keys" = some (some (.builtin "dict.keys")) := fun im => by cases im <;> kernel_rfl
theorem find_init (P : Params) : ∀ im, findIn (hd.heap_39 P) (clsV im) "__init__" = some (some (.builtin "dict.__init__")) := fun im => by cases im <;> kernel_rfl
theorem find_new (P : Params) : ∀ im, findIn (hd.heap_39 P) (clsV im) "__new__" = some (some (.builtin "dict.__new__")) := fun im => by cases im <;> kernel_rfl
theorem find_ga (P : Params) : ∀ im, findIn (hd.heap_39 P) (clsV im) "__getattribute__" = some (some (.builtin "dict.__getattribute__")) := fun im => by cases im <;> kernel_rfl
theorem find_gattr (P : Params) : ∀ im, findIn (hd.heap_39 P) (clsV im) "__getattr__" = some none := fun im => by cases im <;> kernel_rfl
theorem sub_dict (P : Params) : ∀ im, subIn (hd.heap_39 P) (clsV im) (.type "dict") = some true := fun im => by cases im <;> kernel_rfl
theorem sub_od (P : Params) : ∀ im, subIn (hd.heap_39 P) (clsV im) (.type "collections.OrderedDict") = some false := fun im => by cases im <;> kernel_rfl
theorem sub_im (P : Params) : ∀ im, subIn (hd.heap_39 P) (clsV im) (.ref 145) = some im := fun im => by cases im <;> kernel_rfl

end Mine

set_option Elab.async false
set_option maxRecDepth 100000
open PySem PySem.W PyProof.Rows PySem.Calls
namespace Mine

abbrev Le (g h : Heap) : Prop := ∀ b o, g.get? b = some o → h.get? b = some o
def DAt (im : Bool) (h : Heap) (a : Addr) (es : Array DictEntry) (ep : Nat) : Prop :=
  a ≠ sysModules ∧ ∃ dd, h.get? a = some ⟨clsV im, dd, .dict es ep, #[]⟩ ∧
    (match im with | false => dd = none | true => ∃ dx, dd = some dx ∧ dx ≠ a ∧ h.get? dx = some ⟨.type "dict", none, .dict #[] 0, #[]⟩)
def Rows (w : World) (im : Bool) (h : Heap) (a : Addr) (rs : Rw) : Prop := ∃ es ep, DAt im h a es ep ∧ RowsIn w es rs

theorem DAt.keeps {im : Bool} {h h' : Heap} {a : Addr} {es : Array DictEntry} {ep : Nat} (D : DAt im h a es ep) (k : ∀ b o, h.get? b = some o → h'.get? b = some o) : DAt im h' a es ep := by
  obtain ⟨n, dd, ho, r⟩ := D
  refine ⟨n, dd, k _ _ ho, ?_⟩
  cases im with
  | false => exact r
  | true => obtain ⟨dx, e1, e2, e3⟩ := r; exact ⟨dx, e1, e2, k _ _ e3⟩
theorem Rows.keeps {w : World} {im : Bool} {h h' : Heap} {a : Addr} {rs : Rw} (D : Rows w im h a rs) (k : ∀ b o, h.get? b = some o → h'.get? b = some o) : Rows w im h' a rs :=
  let ⟨es, ep, d, r⟩ := D; ⟨es, ep, d.keeps k, r⟩
theorem DAt.obj {im : Bool} {h : Heap} {a : Addr} {es : Array DictEntry} {ep : Nat} (D : DAt im h a es ep) : ∃ dd, h.get? a = some ⟨clsV im, dd, .dict es ep, #[]⟩ := let ⟨_, dd, ho, _⟩ := D; ⟨dd, ho⟩
theorem DAt.sys {im : Bool} {h : Heap} {a : Addr} {es : Array DictEntry} {ep : Nat} (D : DAt im h a es ep) : (a == sysModules) = false := beq_eq_false_iff_ne.mpr D.1
theorem DAt.off {im im' : Bool} {h h' : Heap} {a d : Addr} {es es' : Array DictEntry} {ep ep' : Nat} (D : DAt im h a es ep) (D' : DAt im' h d es' ep') (hne : a ≠ d) (hd : ∀ o, h.get? d = some o → o ≠ ⟨.type "dict", none, .dict #[] 0, #[]⟩ ∨ im = false)
    (hs : Heap.SameBut d h h') : DAt im h' a es ep := by
  obtain ⟨n, dd, ho, r⟩ := D
  refine ⟨n, dd, (hs.2 a hne).trans ho, ?_⟩
  cases im with
  | false => exact r
  | true =>
    obtain ⟨dx, e1, e2, e3⟩ := r
    refine ⟨dx, e1, e2, (hs.2 dx fun q => ?_).trans e3⟩
    rcases hd _ (q ▸ e3) with z | z
    · exact z rfl
    · cases z

/-- rows told by objects that were not there in h₀ -/
def NewR (w : World) (im : Bool) (h₀ h : Heap) (a : Addr) (rs : Rw) : Prop := ∃ g, Le g h ∧ (∀ b x, h₀.get? b = some x → g.get? b = none) ∧ Rows w im g a rs
theorem NewR.rows {w : World} {im : Bool} {h₀ h : Heap} {a : Addr} {rs : Rw} (N : NewR w im h₀ h a rs) : Rows w im h a rs := let ⟨_, k, _, R⟩ := N; R.keeps k
theorem NewR.keeps {w : World} {im : Bool} {h₀ h h' : Heap} {a : Addr} {rs : Rw} (N : NewR w im h₀ h a rs) (k : Le h h') : NewR w im h₀ h' a rs := let ⟨g, k₀, n, R⟩ := N; ⟨g, fun b o e => k _ _ (k₀ _ _ e), n, R⟩
theorem NewR.older {w : World} {im : Bool} {h₀ h₁ h : Heap} {a : Addr} {rs : Rw} (N : NewR w im h₁ h a rs) (k : ∀ b x, h₀.get? b = some x → ∃ y, h₁.get? b = some y) : NewR w im h₀ h a rs :=
  let ⟨g, k₀, n, R⟩ := N; ⟨g, k₀, fun b x e => let ⟨y, e'⟩ := k b x e; n b y e', R⟩
theorem NewR.fresh {w : World} {im : Bool} {h₀ h : Heap} {a : Addr} {rs : Rw} (N : NewR w im h₀ h a rs) : h₀.get? a = none := by
  obtain ⟨g, _, n, es, ep, ⟨_, dd, ho, _⟩, _⟩ := N
  cases q : h₀.get? a with
  | none => rfl
  | some x => rw [n _ _ q] at ho; cases ho
theorem range_mem {n b : Nat} : b ∈ List.range n ↔ b < n := List.mem_range
theorem NewR.of {w : World} {im : Bool} {h₀ h : Heap} {a : Addr} {es : Array DictEntry} {ep : Nat} {rs : Rw} {dd : Option Addr} (h1 : a ≠ sysModules) (ho : h.get? a = some ⟨clsV im, dd, .dict es ep, #[]⟩) (ha : h₀.objs.size ≤ a)
    (hx : match im with | false => dd = none | true => ∃ dx, dd = some dx ∧ dx ≠ a ∧ h₀.objs.size ≤ dx ∧ h.get? dx = some ⟨.type "dict", none, .dict #[] 0, #[]⟩) (R : RowsIn w es rs) : NewR w im h₀ h a rs := by
  have up : ∀ b x, h₀.objs.size ≤ b → h.get? b = some x → (hideAll h (List.range h₀.objs.size)).get? b = some x := fun b x hb e => hideAll_get _ e fun q => absurd (List.mem_range.mp q) (Nat.not_lt.mpr hb)
  refine ⟨hideAll h (List.range h₀.objs.size), fun b o e => of_hideAll _ e, fun b x e => hideAll_none _ (List.mem_range.mpr (Heap.lt_size e)), es, ep, ⟨h1, dd, up _ _ ha ho, ?_⟩, R⟩
  cases im with
  | false => exact hx
  | true => obtain ⟨dx, e1, e2, e3, e4⟩ := hx; exact ⟨dx, e1, e2, up _ _ e3 e4⟩

section
variable {w : World} {M : Model} {im : Bool} {h : Heap} {a : Addr} {es : Array DictEntry} {ep : Nat}
theorem DAt.typ (D : DAt im h a es ep) : Looks M h (typeOf (.ref a)) (clsV im) := by
  obtain ⟨dd, ho⟩ := D.obj
  exact (Looks.ld ho).andThen .now
theorem DAt.look (B : Base w h) (D : DAt im h a es ep) {name : Str} {r : Option Value} (e : findIn (KK w) (clsV im) name = some r) : Looks M h (specialOf (.ref a) name) r :=
  D.typ.andThen (looks_findIn B.k e)
theorem DAt.sub (B : Base w h) (D : DAt im h a es ep) {t : Value} {r : Bool} (e : subIn (KK w) (clsV im) t = some r) : Looks M h (isInstance (.ref a) t) r :=
  D.typ.andThen (looks_subIn B.k e)
theorem DAt.isDict (B : Base w h) (D : DAt im h a es ep) : Looks M h (isInstance (.ref a) (.type "dict")) true := D.sub B (sub_dict _ im)
theorem DAt.ents (D : DAt im h a es ep) (part : Option Value) : Looks M h (dictEntries a part) es := by
  obtain ⟨dd, ho⟩ := D.obj
  exact (Looks.ld ho).andThen .now
theorem DAt.epoch (D : DAt im h a es ep) (part : Option Value) : Looks M h (dictEpoch a part) ep := by
  obtain ⟨dd, ho⟩ := D.obj
  exact (Looks.ld ho).andThen .now
theorem clsV_bne (im : Bool) : (clsV im != .type "dict") = im := by cases im <;> decide
theorem DAt.ordered (B : Base w h) (D : DAt im h a es ep) {name : String} {rest : List Value} {kw : List (Str × Value)} : Looks M h (Builtin.Dict.notOrdered name ⟨.ref a :: rest, kw⟩) () := by
  intro A Q E s k q
  unfold Builtin.Dict.notOrdered
  split
  · refine wpAny_bind (D.typ A _ E s k ?_)
    rw [clsV_bne]
    cases im with
    | false => exact wpAny_pure q
    | true => exact wpAny_bind (D.sub B (sub_od _ true) A _ E s k (wpAny_pure q))
  · exact wpAny_pure q
end

section
variable {w : World} {A : Around} {E : Value → Shared → Prop} {s : Shared} {prog : Program} {im : Bool} {a : Addr} {es : Array DictEntry} {ep : Nat} {rs : Rw}

/-- a built-in's slot or method on a value of its owner -/
theorem callB {id owner n : String} {b : Builtin} {self : Value} {rest : List Value} {Q : Value → Shared → Prop}
    (hk : builtinKind id = some .slot ∨ builtinKind id = some .method) (hsp : splitId id = some (owner, n)) (hp : plainId id = true) (hb : entryFor table id = some b)
    (hi : Looks (model prog w) s.heap (isInstance self (.type owner)) true) (ha : argsOk id ⟨self :: rest, []⟩)
    (hc : wpAny (model prog w) A.in1 (b ⟨self :: rest, []⟩) (fun fin s' => ∃ v, fin = .done (.ret v) ∧ Q v s') E s) : wpAny (model prog w) A (call (.builtin id) (self :: rest)) Q E s := by
  refine wpAny_call (codeAny_call_builtin hp hb ?_)
  have fin : wpAny (model prog w) A.in1 (b ⟨self :: rest, []⟩) (fun fin s' => match fin with | .done f => (match (Except.ok f : Result) with | .ok (.ret v) => Q v s' | .ok _ => False | .error e => E e s') | .again c' => c'.quiet = true ∧ codeAny (model prog w) A c' (fun r s' => match r with | .ok (.ret v) => Q v s' | .ok _ => False | .error e => E e s') s') E s :=
    wpAny_mono hc (fun f s' z => by obtain ⟨v, rfl, q⟩ := z; exact q) fun _ _ z => z
  simp only [checkBuiltinCall, hsp]
  rcases hk with hk | hk <;>
  · simp only [hk]
    refine wpAny_bind (hi.here ?_)
    simp only [Bool.not_true, Bool.false_eq_true, if_false]
    cases hsig : Manifest.signature? id with
    | none => exact wpAny_pure fin
    | some sig =>
      simp only [argsOk, hsig] at ha
      have h2 : Bind.checkArgs id sig ⟨self :: rest, []⟩ = pure () := ha
      show wpAny _ _ (Bind.checkArgs id sig ⟨self :: rest, []⟩) _ _ _
      rw [h2]; exact wpAny_pure fin

theorem dictLen_D {Q : Value → Shared → Prop} (B : Base w s.heap) (D : DAt im s.heap a es ep) (q : Q (.int es.size s.toks) { s with toks := s.toks + 1 }) :
    wpAny (model prog w) A (call (.builtin "dict.__len__") [.ref a]) Q E s := by
  obtain ⟨h, g, d, t, os⟩ := s
  refine callB (owner := "dict") (n := "__len__") (.inl (by decide +kernel)) (by decide +kernel) F.slot_dict_len.plain F.entry_dict_len (D.isDict B) (F.args_dict_len_1 _) ?_
  unfold Builtin.«dict.__len__»
  have o := D.ordered (M := model prog w) B (name := "__len__") (rest := []) (kw := [])
  have e := D.ents (M := model prog w) (some keysPart)
  unfold Builtin.Dict.dictSlotNone dictSize
  refine wpAny_bind (wpAny_bind (o.at ?_))
  refine wpAny_bind (wpAny_pure ?_)
  refine wpAny_pure ?_
  refine wpAny_bind (wpAny_pure ?_)
  refine wpAny_bind (wpAny_bind (e.at ?_))
  refine wpAny_pure ?_
  unfold Builtin.Dict.pendingCount
  rw [if_neg (by rw [D.sys]; exact Bool.false_ne_true)]
  refine wpAny_bind (wpAny_pure ?_)
  refine wpAny_bind (wpAny_mkInt (wpAny_pure ⟨_, rfl, ?_⟩))
  simpa using q

theorem len_D {Q : Value → Shared → Prop} (B : Base w s.heap) (D : DAt im s.heap a es ep) (hz : es.size ≤ 4) (q : ∀ t', Q (.int es.size t') { s with toks := t' + 1 }) :
    codeAny (model prog w) A (.builtin "len" ⟨[.ref a], []⟩) (fun r s' => match r with | .ok (.ret v) => Q v s' | .ok _ => False | .error e => E e s') s := by
  refine codeAny_builtin entry_len ?_
  unfold Builtin.«len»
  refine wpAny_bind (m := oneArg "len" _) (wpAny_pure ?_)
  refine wpAny_bind (m := callSpecial? (.ref a) (Str.ofString "__len__")) ?_
  unfold callSpecial?
  refine wpAny_bind ((D.look B (find_len _ im)).here ?_)
  refine wpAny_holding ?_
  rw [F.slot_dict_len.bind]
  refine wpAny_bind (wpAny_pure (wpAny_bind (dictLen_D B D (wpAny_pure ?_))))
  refine wpAny_bind (wpAny_holding (wpAny_pure ?_))
  refine wpAny_bind (wpAny_letGo ?_)
  show wpAny _ _ (if (es.size : Int) < 0 then _ else _) _ _ _
  rw [if_neg (by omega)]
  show wpAny _ _ (if (es.size : Int) ≥ 2 ^ 63 then _ else _) _ _ _
  rw [if_neg (by omega)]
  exact wpAny_bind (wpAny_mkInt (wpAny_pure (q _)))

theorem truthy_D {Q : Bool → Shared → Prop} (B : Base w s.heap) (D : DAt im s.heap a es ep) (hz : es.size ≤ 4) (q : ∀ t', Q ((es.size : Int) != 0) { s with toks := t' }) :
    wpAny (model prog w) A (truthy (.ref a)) Q E s := by
  unfold truthy
  show wpAny _ _ (callSpecial? (.ref a) (Str.ofString "__bool__") >>= _) _ _ _
  unfold callSpecial?
  refine wpAny_bind (wpAny_bind ((D.look B (find_bool _ im)).here (wpAny_pure ?_)))
  refine wpAny_bind ((D.look B (find_len _ im)).here ?_)
  show wpAny _ _ (if (some (Value.builtin "dict.__len__")).isNone = true then _ else _) _ _ _
  rw [if_neg (by simp)]
  exact wpAny_bind (wpAny_runValue (len_D B D hz fun t' => wpAny_pure (q _)))
end
end Mine

set_option Elab.async false
set_option maxRecDepth 100000
open PySem PySem.W PyProof.Rows PySem.Calls
namespace Mine

theorem mergeR_take {rs : Rw} {l : List (Str × Int)} {i : Nat} {p : Str × Int} (h : l[i]? = some p) : mergeR rs (l.take (i + 1)) = put (mergeR rs (l.take i)) p.1 p.2 := by
  simp [mergeR, List.take_add_one, h, List.foldl_append]

section
variable {w : World} {A : Around} {E : Value → Shared → Prop} {s : Shared} {prog : Program}

theorem mergeDict_D {nm : String} {h₀ : Heap} {im : Bool} {d o : Addr} {c : Value} {dd : Option Addr} {sl : Array (Option Value)} {es eo : Array DictEntry} {ep eq : Nat} {rs ro : Rw} {Q : Unit → Shared → Prop}
    (hd : s.heap.get? d = some ⟨c, dd, .dict es ep, sl⟩) (R : RowsIn w es rs) (hn : h₀.get? d = none) (k : ∀ b x, h₀.get? b = some x → s.heap.get? b = some x) (D : DAt im h₀ o eo eq) (Ro : RowsIn w eo ro)
    (h : ∀ h' es' ep', h'.get? d = some ⟨c, dd, .dict es' ep', sl⟩ → RowsIn w es' (mergeR rs ro) → Heap.SameBut d s.heap h' → Q () { s with heap := h' }) :
    wpAny (model prog w) A (Builtin.Dict.mergeDict nm d o) Q E s := by
  obtain ⟨od, ho⟩ := D.obj
  have hdo : d ≠ o := fun e => by rw [e, ho] at hn; cases hn
  unfold Builtin.Dict.mergeDict
  rw [if_neg (by simpa using hdo)]
  unfold Builtin.Dict.showsAll
  rw [if_neg (by rw [D.sys]; exact Bool.false_ne_true)]
  refine wpAny_bind (wpAny_pure ?_)
  refine wpAny_bind (wpAny_dictEntries (k _ _ ho) rfl ?_)
  have hfew : (decide (eo.size ≤ 8) && eo.all fun e => (keyPart e.key).isSome) = true := by
    rw [Bool.and_eq_true]
    refine ⟨decide_eq_true (Nat.le_trans Ro.size_le (by omega)), ?_⟩
    rw [Array.all_eq_true']
    intro e he
    obtain ⟨x, t, v, t', rfl⟩ := Ro.ent e (Array.mem_toList_iff.mpr he)
    rfl
  simp only [hfew, Bool.not_true, Bool.false_eq_true, if_false]
  refine wpAny_bind (wpAny_dictEpoch (k _ _ ho) rfl ?_)
  refine wpAny_bind (wpAny_dictEntries (k _ _ ho) rfl ?_)
  have hlen : ro.length = eo.size := Ro.size.symm
  refine wpAny_bind ?_
  rw [Std.Legacy.Range.forIn_eq_forIn_range']
  simp only [Std.Legacy.Range.size, Nat.sub_zero, Nat.add_sub_cancel, Nat.div_one]
  refine wpAny_forIn_list _
    (fun rest _ s' => ∃ h' i es' ep', s' = { s with heap := h' } ∧ rest = List.range' i (eo.size - i) ∧ i ≤ eo.size ∧ h'.get? d = some ⟨c, dd, .dict es' ep', sl⟩ ∧ RowsIn w es' (mergeR rs (ro.take i)) ∧ Heap.SameBut d s.heap h')
    _ ?_ ?_ _ _ ⟨s.heap, 0, es, ep, rfl, by simp, Nat.zero_le _, hd, by simpa [mergeR] using R, Heap.SameBut.refl _ _⟩
  · rintro x rest b s' ⟨h', i, es', ep', rfl, hr, hi, hd', R', hs'⟩
    have hlt : i < eo.size := by
      rcases Nat.lt_or_ge i eo.size with h | h
      · exact h
      · rw [Nat.sub_eq_zero_of_le h] at hr; simp at hr
    obtain ⟨rfl, hrest⟩ : x = i ∧ rest = List.range' (i + 1) (eo.size - (i + 1)) := by
      have e : eo.size - i = (eo.size - (i + 1)) + 1 := by omega
      rw [e, List.range'_succ] at hr
      injection hr with h1 h2
      exact ⟨h1, h2⟩
    have ho' : h'.get? o = some ⟨clsV im, od, .dict eo eq, #[]⟩ := (hs'.2 o (Ne.symm hdo)).trans (k _ _ ho)
    refine wpAny_bind (wpAny_dictEntries ho' rfl ?_)
    rw [Array.getElem?_eq_getElem hlt]
    obtain ⟨y, t, v, t', he⟩ := Ro.ent eo[x] (Array.mem_toList_iff.mpr (Array.getElem_mem hlt))
    have hp : ro[x]? = some (y, v) := by
      rw [← Ro.rows, List.getElem?_map]
      have : eo.toList[x]? = some eo[x] := by simp [hlt]
      rw [this, he]; rfl
    have hok : OkR (y, v) := Ro.ok.ok _ (List.mem_of_getElem? hp)
    show wpAny _ _ (holding [eo[x].key, eo[x].val] (dictSetHashed d eo[x].key eo[x].hash eo[x].val) >>= _) _ _ _
    rw [he]
    refine wpAny_bind (wpAny_holding (dictSetHashed_rows hd' R' hok fun h'' es'' ep'' hd'' R'' hs'' => ?_))
    have ho'' : h''.get? o = some ⟨clsV im, od, .dict eo eq, #[]⟩ := (hs''.2 o (Ne.symm hdo)).trans ho'
    refine wpAny_bind (wpAny_dictEpoch ho'' rfl ?_)
    rw [if_neg (by simp)]
    exact wpAny_pure ⟨h'', x + 1, es'', ep'', rfl, hrest, hlt, hd'', by rw [mergeR_take hp]; exact R'', hs'.trans hs''⟩
  · rintro b s' ⟨h', i, es', ep', rfl, hr, hi, hd', R', hs'⟩
    have hin : i = eo.size := by
      rcases Nat.lt_or_ge i eo.size with h | h
      · have e : eo.size - i = (eo.size - (i + 1)) + 1 := by omega
        rw [e, List.range'_succ] at hr; exact nomatch hr
      · exact Nat.le_antisymm hi h
    refine wpAny_pure (h h' es' ep' hd' ?_ hs')
    rw [hin, ← hlen, List.take_length] at R'; exact R'

/-- merge of a source that is a dict or one of ours -/
theorem merge_D {nm : String} {h₀ : Heap} {im : Bool} {d o : Addr} {c : Value} {dd : Option Addr} {sl : Array (Option Value)} {es eo : Array DictEntry} {ep eq : Nat} {rs ro : Rw} {Q : Unit → Shared → Prop}
    (B : Base w s.heap) (hd : s.heap.get? d = some ⟨c, dd, .dict es ep, sl⟩) (R : RowsIn w es rs) (hn : h₀.get? d = none) (k : ∀ b x, h₀.get? b = some x → s.heap.get? b = some x) (D : DAt im h₀ o eo eq) (Ro : RowsIn w eo ro)
    (h : ∀ h' es' ep', h'.get? d = some ⟨c, dd, .dict es' ep', sl⟩ → RowsIn w es' (mergeR rs ro) → Heap.SameBut d s.heap h' → Q () { s with heap := h' }) :
    wpAny (model prog w) A (Builtin.Dict.merge nm d (.ref o)) Q E s := by
  have D' := D.keeps k
  unfold Builtin.Dict.merge Builtin.Dict.readDirectly
  refine wpAny_bind (wpAny_bind ((D'.isDict B).here ?_))
  simp only [Bool.not_true, Bool.false_eq_true, if_false]
  refine wpAny_bind ((D'.look B (find_iter _ im)).here (wpAny_pure ?_))
  simp only [beq_self_eq_true, if_true]
  refine wpAny_bind (wpAny_pure ?_)
  exact mergeDict_D hd R hn k D Ro h
end
end Mine

set_option Elab.async false
set_option maxRecDepth 100000
open PySem PySem.W PyProof.Rows PySem.Calls
namespace Mine

abbrev noDict : Obj := ⟨.type "dict", none, .dict #[] 0, #[]⟩

theorem DAt.inst {h : Heap} {a : Addr} {es : Array DictEntry} {ep : Nat} (D : DAt true h a es ep) : ∃ dx, InstAt h a ⟨.ref 145, some dx, .dict es ep, #[]⟩ 145 (some noDict) := by
  obtain ⟨_, dd, ho, dx, rfl, _, hx⟩ := D
  exact ⟨dx, ho, rfl, rfl, hx⟩

section
variable {w : World} {A : Around} {E : Value → Shared → Prop} {s : Shared} {prog : Program} {a : Addr} {es : Array DictEntry} {ep : Nat} {rs : Rw}

/-- an attribute of one of ours that is bound by a descriptor -/
theorem getAttrBy_im {fill expr : Bool} {name : Str} {tk : Tok} {g c : Value} {Q : Value → Shared → Prop} (B : Base w s.heap) (D : DAt true s.heap a es ep) (hf : findObj (KK w) 145 (some noDict) name = some (.bind g c))
    (h : wpAny (model prog w) A.in1 (call g [c, .ref a, .ref 145]) (fun v s' => handedIn v = true ∧ Q v s') (fun _ _ => False) s) :
    wpAny (model prog w) A (getAttrBy (.ref a) (.str name tk) fill expr) Q E s := by
  obtain ⟨dx, I⟩ := D.inst
  obtain ⟨hh, gg, d, t, os⟩ := s
  have L0 := D.typ (M := model prog w)
  have L1 := looks_findIn (M := model prog w) B.k (find_ga w.params true)
  have L2 := looks_findIn (M := model prog w) B.k (find_gattr w.params true)
  have L3 := looks_find (M := model prog w) B.k I hf
  unfold getAttrBy
  refine wpAny_holding (wpAny_bind (L0.at (wpAny_bind (L1.at ?_))))
  show wpAny _ _ (getAttrByItsOwn (.ref a) (.str name tk) (.ref 145) (.builtin "dict.__getattribute__") fill expr) _ _ _
  unfold getAttrByItsOwn
  show wpAny _ _ (typeLookup (.ref 145) (Str.ofString "__getattr__") >>= _) _ _ _
  refine wpAny_bind (L2.at ?_)
  refine wpAny_bind (wpAny_attempt ?_)
  refine wpAny_holding ?_
  have e : callGetattribute (.ref a) (.str name tk) (.builtin "dict.__getattribute__") expr = boundAndCalled (.builtin "dict.__getattribute__") (.ref a) (.str name tk) := by
    unfold callGetattribute; cases expr <;> rfl
  rw [e]
  unfold boundAndCalled
  rw [F.slot_dict_getattribute.bind]
  refine wpAny_bind (wpAny_pure ?_)
  refine callB (owner := "dict") (n := "__getattribute__") (.inl (by decide +kernel)) (by decide +kernel) F.slot_dict_getattribute.plain am_entry_dict_getattribute (D.isDict B) (F.args_dict_getattribute_2 _ _) ?_
  unfold Builtin.«object.__getattribute__»
  refine wpAny_bind (wpAny_of_eq (a := (.ref a, [.str name tk])) (by kernel_rfl) ?_)
  refine wpAny_bind (wpAny_pure ?_)
  refine wpAny_bind (L0.at (wpAny_bind (L3.at ?_)))
  show wpAny _ _ (Builtin.ObjectAttr.bindTo g c (.ref a) (.ref 145)) _ _ _
  unfold Builtin.ObjectAttr.bindTo
  show wpAny _ _ (holding [c] (call g [c, .ref a, .ref 145]) >>= ret) _ _ _
  refine wpAny_bind (wpAny_holding (wpAny_mono h (fun v s' z => wpAny_pure ⟨v, rfl, ?_⟩) fun _ _ z => z.elim))
  show wpAny _ _ (handedOut v) _ _ _
  rw [handedOut_of z.1]
  exact wpAny_pure z.2

theorem attr_keys (P : Params) : findObj (hd.heap_39 P) 145 (some noDict) "keys" = some (.bind (.builtin "method_descriptor.__get__") (.builtin "dict.keys")) := by kernel_rfl
theorem attr_merge (P : Params) : findObj (hd.heap_39 P) 145 (some noDict) "merge_with" = some (.bind (.builtin "function.__get__") (.ref 107)) := by kernel_rfl
theorem attr_union (P : Params) : findObj (hd.heap_39 P) 145 (some noDict) "union" = some (.bind (.builtin "function.__get__") (.ref 100)) := by kernel_rfl
theorem attr_class (P : Params) : findObj (hd.heap_39 P) 145 (some noDict) "__class__" = some (.bind (.builtin "getset_descriptor.__get__") (.builtin "object.__class__")) := by kernel_rfl

theorem slot_md : Slot "method_descriptor" "__get__" "method_descriptor.__get__" :=
  .of (owner := "method_descriptor") (n := "__get__") (by rw [typeLookup_type, builtinLookup_eq_fast]; kernel_rfl) (by decide +kernel) (by decide +kernel) (by decide +kernel)
    (by first | exact .inl (by decide +kernel) | exact .inr (by decide +kernel)) (by rw [isSubtype_type]; kernel_rfl)
theorem entry_md : entryFor table "method_descriptor.__get__" = some Builtin.«method_descriptor.__get__» := entryFor_of_tree (by kernel_rfl)
theorem args_md (a b c : Value) : argsOk "method_descriptor.__get__" ⟨[a, b, c], []⟩ := by unfold argsOk; kernel_rfl

theorem bound_keys {Q : Value → Shared → Prop} (B : Base w s.heap) (D : DAt true s.heap a es ep)
    (h : Q (.ref s.heap.objs.size) { s with heap := s.heap.push { cls := .type "builtin_function_or_method", data := .fields #[.builtin "dict.keys", .ref a] } }) :
    wpAny (model prog w) A (call (.builtin "method_descriptor.__get__") [.builtin "dict.keys", .ref a, .ref 145]) Q E s := by
  refine wpAny_call_entry slot_md F.type_dict_keys entry_md ?_ (args_md _ _ _)
  unfold Builtin.«method_descriptor.__get__»
  refine wpAny_bind (wpAny_of_eq (a := (.builtin "dict.keys", some (.ref a), some (.ref 145))) (by kernel_rfl) ?_)
  have ht : Manifest.toldItsClass.contains "dict.keys" = false := by decide +kernel
  dsimp only
  simp only [ht, Bool.false_eq_true, if_false]
  k_node
  refine wpAny_bind ?_
  k_node
  refine wpAny_bind (wpAny_of_eq (a := (Str.ofString "keys", .type "dict")) (by kernel_rfl) ?_)
  refine wpAny_bind ((D.isDict B).here ?_)
  refine wpAny_pure ?_
  refine wpAny_bind (wpAny_newObj_type (wpAny_pure ⟨_, rfl, h⟩))

theorem getAttr?_keys {Q : Option Value → Shared → Prop} (B : Base w s.heap) (D : DAt true s.heap a es ep)
    (h : ∀ v h', (∀ b o, s.heap.get? b = some o → h'.get? b = some o) → Q (some v) { s with heap := h', toks := s.toks + 1 }) :
    wpAny (model prog w) A (getAttr? (.ref a) (Str.ofString "keys")) Q E s := by
  unfold getAttr? getAttrBy?
  refine wpAny_bind (wpAny_mkText ?_)
  refine wpAny_bind (wpAny_attempt (getAttrBy_im (s := { s with toks := s.toks + 1 }) B D (attr_keys w.params) (bound_keys (s := { s with toks := s.toks + 1 }) B D ⟨rfl, ?_⟩)))
  exact wpAny_pure (h _ _ fun b o e => Heap.get?_push_of_some _ e)

/-- dict's update from one dict or one of ours -/
theorem updateFrom_D {nm : String} {h₀ : Heap} {im : Bool} {d o : Addr} {c : Value} {dd : Option Addr} {sl : Array (Option Value)} {es eo : Array DictEntry} {ep eq : Nat} {rs ro : Rw} {res : Value} {Q : Fin → Shared → Prop}
    (B : Base w s.heap) (hd : s.heap.get? d = some ⟨c, dd, .dict es ep, sl⟩) (R : RowsIn w es rs) (hn : h₀.get? d = none) (k : ∀ b x, h₀.get? b = some x → s.heap.get? b = some x) (D : DAt im h₀ o eo eq) (Ro : RowsIn w eo ro)
    (h : ∀ h' es' ep' t', h'.get? d = some ⟨c, dd, .dict es' ep', sl⟩ → RowsIn w es' (mergeR rs ro) → (∀ b x, s.heap.get? b = some x → b ≠ d → h'.get? b = some x) → Q (.done (.ret res)) { s with heap := h', toks := t' }) :
    wpAny (model prog w) A (Builtin.Dict.updateFrom nm d (.ref o) [] res) Q E s := by
  have D' := D.keeps k
  unfold Builtin.Dict.updateFrom
  refine wpAny_bind (D'.typ.here ?_)
  have fin : ∀ (s₁ : Shared), s₁ = { s with heap := s₁.heap, toks := s₁.toks } → (∀ b x, s.heap.get? b = some x → s₁.heap.get? b = some x) → wpAny (model prog w) A (Builtin.Dict.merge nm d (.ref o) >>= fun _ => Builtin.Dict.addKeywords d [] >>= fun _ => ret res) Q E s₁ := by
    intro s₁ e k₁
    refine wpAny_bind (merge_D (B.keeps k₁) (k₁ _ _ hd) R hn (fun b x e => k₁ _ _ (k _ _ e)) D Ro fun h' es' ep' hd' R' hs' => ?_)
    refine wpAny_bind (wpAny_pure (wpAny_pure ?_))
    rw [e]
    exact h h' es' ep' _ hd' R' fun b x q hb => (hs'.2 b hb).trans (k₁ _ _ q)
  rw [clsV_bne]
  cases im with
  | false => exact fin s rfl fun _ _ e => e
  | true =>
    refine wpAny_bind (m := getAttr? (.ref o) (Str.ofString "keys")) (getAttr?_keys B D' fun v h' k' => ?_)
    exact fin { s with heap := h', toks := s.toks + 1 } rfl k'

theorem dict_update_D {h₀ : Heap} {im imd : Bool} {d o : Addr} {es eo : Array DictEntry} {ep eq : Nat} {rs ro : Rw} {Q : Value → Shared → Prop}
    (B : Base w s.heap) (Dd : DAt imd s.heap d es ep) (R : RowsIn w es rs) (hn : h₀.get? d = none) (k : ∀ b x, h₀.get? b = some x → s.heap.get? b = some x) (D : DAt im h₀ o eo eq) (Ro : RowsIn w eo ro)
    (h : ∀ h' es' ep' t', DAt imd h' d es' ep' → (∀ dd, s.heap.get? d = some ⟨clsV imd, dd, .dict es ep, #[]⟩ → h'.get? d = some ⟨clsV imd, dd, .dict es' ep', #[]⟩) → RowsIn w es' (mergeR rs ro) →
      (∀ b x, s.heap.get? b = some x → b ≠ d → h'.get? b = some x) → Q .none { s with heap := h', toks := t' }) :
    wpAny (model prog w) A (call (.builtin "dict.update") [.ref d, .ref o]) Q E s := by
  obtain ⟨n, dd, hd, hx⟩ := id Dd
  refine callB (owner := "dict") (n := "update") (.inr (by decide +kernel)) (by decide +kernel) F.slot_dict_update.plain F.entry_dict_update (Dd.isDict B) (F.args_dict_update_2 _ _) ?_
  unfold Builtin.«dict.update» Builtin.Dict.selfAndRest
  refine wpAny_bind (wpAny_bind ((Dd.ordered B).here ?_))
  refine wpAny_bind (wpAny_pure (wpAny_pure ?_))
  show wpAny _ _ (Builtin.Dict.updateFrom "dict.update" d (.ref o) [] .none) _ _ _
  refine updateFrom_D B hd R hn k D Ro fun h' es' ep' t' hd' R' k' => ⟨_, rfl, h h' es' ep' t' ⟨n, dd, hd', ?_⟩ (fun dd' e => by rw [hd] at e; cases e; exact hd') R' k'⟩
  cases imd with
  | false => exact hx
  | true => obtain ⟨dx, e1, e2, e3⟩ := hx; exact ⟨dx, e1, e2, k' _ _ e3 e2⟩
end
end Mine

set_option Elab.async false
set_option maxRecDepth 100000
open PySem PySem.W PyProof.Rows PySem.Calls
namespace Mine

section
variable {w : World} {A : Around} {E : Value → Shared → Prop} {s : Shared} {prog : Program} {rs : Rw}

theorem Base.fresh_sys {h : Heap} (B : Base w h) : h.objs.size ≠ sysModules := by
  have := B.size
  show h.objs.size ≠ 1
  omega

/-- the start of a dict made from another: __init__ -/
theorem dict_init_D {h₀ : Heap} {im imd : Bool} {d o : Addr} {es eo : Array DictEntry} {ep eq : Nat} {rs ro : Rw} {A' : Around} {Q : Fin → Shared → Prop} {E : Value → Shared → Prop}
    (B : Base w s.heap) (Dd : DAt imd s.heap d es ep) (R : RowsIn w es rs) (hn : h₀.get? d = none) (k : ∀ b x, h₀.get? b = some x → s.heap.get? b = some x) (D : DAt im h₀ o eo eq) (Ro : RowsIn w eo ro)
    (h : ∀ h' es' ep' t', (∀ dd, s.heap.get? d = some ⟨clsV imd, dd, .dict es ep, #[]⟩ → h'.get? d = some ⟨clsV imd, dd, .dict es' ep', #[]⟩) → RowsIn w es' (mergeR rs ro) → (∀ b x, s.heap.get? b = some x → b ≠ d → h'.get? b = some x) → Q (.done (.ret .none)) { s with heap := h', toks := t' }) :
    wpAny (model prog w) A' (Builtin.«dict.__init__» ⟨[.ref d, .ref o], []⟩) Q E s := by
  obtain ⟨n, dd, hd, hx⟩ := id Dd
  unfold Builtin.«dict.__init__» Builtin.Dict.selfAndRest
  refine wpAny_bind (wpAny_bind ((Dd.ordered B).here ?_))
  refine wpAny_bind (wpAny_pure (wpAny_pure ?_))
  show wpAny _ _ (Builtin.Dict.updateFrom "dict.__init__" d (.ref o) [] .none) _ _ _
  exact updateFrom_D B hd R hn k D Ro fun h' es' ep' t' hd' R' k' => h h' es' ep' t' (fun dd' e => by rw [hd] at e; cases e; exact hd') R' k'

/-- dict(x) -/
theorem call_dict_D {im : Bool} {o : Addr} {ro : Rw} {Q : Value → Shared → Prop} (B : Base w s.heap) (D : Rows w im s.heap o ro)
    (h : ∀ d h' t', NewR w false s.heap h' d ro → Le s.heap h' → Q (.ref d) { s with heap := h', toks := t' }) :
    wpAny (model prog w) A (call (.type "dict") [.ref o]) Q E s := by
  obtain ⟨eo, eq, D, Ro⟩ := D
  have hn : s.heap.get? s.heap.objs.size = none := by
    cases q : s.heap.get? s.heap.objs.size with
    | none => rfl
    | some x => exact absurd (Heap.lt_size q) (Nat.lt_irrefl _)
  refine callType_codes (Q₁ := fun obj s₁ => obj = .ref s.heap.objs.size ∧ s₁ = { s with heap := s.heap.push { cls := .type "dict", data := .dict #[] } }) F.kt_called_dict (F.kt_typeCall_dict_1 _) F.entry_dict_init (kt_code_dict_new _ ⟨rfl, rfl⟩) ?_
  rintro obj s₁ ⟨rfl, rfl⟩
  have k : ∀ b x, s.heap.get? b = some x → (s.heap.push { cls := .type "dict", data := .dict #[] }).get? b = some x := fun b x e => Heap.get?_push_of_some _ e
  have Dd : DAt false (s.heap.push { cls := .type "dict", data := .dict #[] }) s.heap.objs.size #[] 0 := ⟨B.fresh_sys, none, Heap.get?_push_size _ rfl, rfl⟩
  refine ⟨⟨_, Heap.get?_push_size _ rfl, rfl⟩, F.args_dict_init_2 _ _, ?_⟩
  refine dict_init_D (s := { s with heap := s.heap.push { cls := .type "dict", data := .dict #[] } }) (B.keeps k) Dd (.nil w) hn k D Ro fun h' es' ep' t' D' R' k' => ?_
  rw [mergeR_of_nil Ro.ok] at R'
  refine ⟨rfl, h _ h' t' (.of B.fresh_sys (D' none (Heap.get?_push_size _ rfl)) (Nat.le_refl _) rfl R') fun b x q => k' _ _ (k _ _ q) fun e => ?_⟩
  rw [e, hn] at q; cases q

/-! ### our class called -/
theorem look_mro {M : Model} {h : Heap} (B : Base w h) : Looks M h (mroOf (.ref 145)) [.ref 145, .type "dict", .type "object"] := by
  obtain ⟨c, d, cd, sl, e, e1, e2, _⟩ := at145 w.params
  have : clsIn (KK w) 145 = some cd := by unfold clsIn; rw [e]
  have L : Looks M h (mroOf (.ref 145)) cd.mro := (looks_clsIn (M := M) B.k this).andThen .now
  rw [e2] at L
  exact L
theorem slot145 (P : Params) : ∃ o, List.lookup 145 (hd.heap_39 P) = some o ∧ (o.slots[4]?).join = some (.builtin "dict.__new__") := ⟨_, rfl, rfl⟩
theorem look_made {M : Model} {h : Heap} (B : Base w h) : Looks M h (Bind.madeBy (.ref 145)) (some "dict.__new__") := by
  intro A Q E s k q
  unfold Bind.madeBy
  obtain ⟨o, e, es⟩ := slot145 w.params
  refine wpAny_bind (look_mro B A _ E s k ?_)
  rw [List.forIn_cons]
  refine wpAny_bind (wpAny_bind (wpAny_bind (wpAny_bind (wpAny_loadPart (k _ _ (B.k _ _ e)) (wpAny_pure ?_)))))
  dsimp only
  rw [es]
  exact wpAny_pure (wpAny_pure (wpAny_pure q))
theorem look_base {M : Model} {h : Heap} (B : Base w h) : Looks M h (Bind.staticBase (.ref 145)) (.ref 145) := by
  intro A Q E s k q
  unfold Bind.staticBase
  refine wpAny_bind (look_mro B A _ E s k ?_)
  rw [List.forIn_cons]
  exact wpAny_bind (wpAny_bind (wpAny_bind (look_made B A _ E s k (wpAny_pure (wpAny_pure (wpAny_pure q))))))
theorem look_call (P : Params) : specialIn (hd.heap_39 P) (.ref 145) "__call__" = some (some (.builtin "type.__call__")) := by kernel_rfl
theorem look_type (P : Params) : instIn (hd.heap_39 P) (.ref 145) (.type "type") = some true := by kernel_rfl
theorem look_isType {M : Model} {h : Heap} (B : Base w h) : Looks M h (isType (.ref 145)) true := by
  obtain ⟨c, d, cd, sl, e, _⟩ := at145 w.params
  exact (Looks.ld (part := some headPart) (B.k _ _ e)).andThen .now

abbrev imObj (dx : Addr) : Obj := { cls := .ref 145, dict := some dx, data := .dict #[] }
theorem new_row : Manifest.signature? "dict.__new__" = some ⟨.any, "dict", "dict", .cls, [⟨"args", .varPos, false⟩, ⟨"kwargs", .varKw, false⟩]⟩ := by kernel_rfl
theorem new_args (rest : List Value) : Bind.checkArgs "dict.__new__" ⟨.any, "dict", "dict", .cls, [⟨"args", .varPos, false⟩, ⟨"kwargs", .varKw, false⟩]⟩ ⟨.ref 145 :: rest, []⟩ = pure () := by kernel_rfl

theorem code_new_im {rest : List Value} {R : Result → Shared → Prop} (B : Base w s.heap)
    (q : R (.ok (.ret (.ref (s.heap.objs.size + 1)))) { s with heap := (s.heap.push noDict).push (imObj s.heap.objs.size) }) :
    codeAny (model prog w) A (.call (.builtin "dict.__new__") ⟨.ref 145 :: rest, []⟩) R s := by
  refine codeAny_call_builtin F.kt_plain_dict_new F.kt_entry_dict_new ?_
  have hk : builtinKind "dict.__new__" = some .builtinFn := by decide +kernel
  have hs : splitId "dict.__new__" = some ("dict", "__new__") := by decide +kernel
  obtain ⟨c, d, cd, sl, e145, e1, e2, _⟩ := at145 w.params
  have h145 := B.k _ _ e145
  have k1 : ∀ b x, s.heap.get? b = some x → (s.heap.push noDict).get? b = some x := fun b x e => Heap.get?_push_of_some _ e
  obtain ⟨hh, gg, dr, tk, os⟩ := s
  have hm : (Manifest.canonical "dict.__new__" != Manifest.canonical "dict.__new__") = false := by simp
  have L1 := look_isType (M := model prog w) B
  have L2 := looks_subIn (M := model prog w) B.k (sub_dict w.params true)
  have L3 := look_base (M := model prog w) B
  have L4 := look_made (M := model prog w) B
  have L5 := look_mro (M := model prog w) B
  simp only [checkBuiltinCall, hk, hs, new_row]
  rw [new_args]
  repeat (first | simp only [hm, Bool.not_true, Bool.false_eq_true, if_false] | lk)
  refine nd_load (Heap.get?_push_of_some _ (Heap.get?_push_of_some _ h145)) ?_
  repeat (first | simp only [e1, Bool.false_eq_true, if_false] | lk)
  rw [Heap.size_push]
  exact q

/-- our class called: __new__, then dict's __init__ -/
theorem call_im {rest : List Value} {Q : Value → Shared → Prop} (B : Base w s.heap) (ha : ∀ a, argsOk "dict.__init__" ⟨a :: rest, []⟩)
    (h : wpAny (model prog w) (A.under (.builtin "type.__call__" ⟨.ref 145 :: rest, []⟩)).in1 (Builtin.«dict.__init__» ⟨.ref (s.heap.objs.size + 1) :: rest, []⟩)
      (fun fin s' => fin = .done (.ret .none) ∧ Q (.ref (s.heap.objs.size + 1)) s') (fun _ _ => False) { s with heap := (s.heap.push noDict).push (imObj s.heap.objs.size) }) :
    wpAny (model prog w) A (call (.ref 145) rest) Q E s := by
  obtain ⟨c, d, cd, sl, e145, e1, e2, _⟩ := at145 w.params
  have h145 := B.k _ _ e145
  have k : ∀ b o, s.heap.get? b = some o → ((s.heap.push noDict).push (imObj s.heap.objs.size)).get? b = some o := fun b o e => Heap.get?_push_of_some _ (Heap.get?_push_of_some _ e)
  have B' := B.keeps k
  have hx : ((s.heap.push noDict).push (imObj s.heap.objs.size)).get? (s.heap.objs.size + 1) = some (imObj s.heap.objs.size) := by
    have := Heap.get?_push_size (s.heap.push noDict) (o := imObj s.heap.objs.size) rfl
    rwa [Heap.size_push] at this
  have D' : DAt true ((s.heap.push noDict).push (imObj s.heap.objs.size)) (s.heap.objs.size + 1) #[] 0 := by
    refine ⟨?_, some s.heap.objs.size, hx, s.heap.objs.size, rfl, Nat.ne_of_lt (Nat.lt_succ_self _), Heap.get?_push_of_some _ (Heap.get?_push_size _ rfl)⟩
    have := B.size
    show s.heap.objs.size + 1 ≠ 1
    omega
  obtain ⟨hh, gg, dr, tk, os⟩ := s
  have L1 := looks_specialIn (M := model prog w) B.k (look_call w.params)
  have L2 := look_mro (M := model prog w) B
  have L3 := look_made (M := model prog w) B
  refine wpAny_call (codeAny_of_tree ?_)
  show wpAny _ _ (callAny (.ref 145) _) _ _ _
  refine nd_load h145 ?_
  show wpAny _ _ (callAny.viaDunder (.ref 145) _) _ _ _
  unfold callAny.viaDunder
  refine wpAny_bind (L1.at ?_)
  dsimp only
  rw [tc_bind]
  refine wpAny_bind (wpAny_pure (wpAny_bind (wpAny_pure ?_)))
  refine wpAny_pure (a := Fin.again (.call (.builtin "type.__call__") ⟨.ref 145 :: rest, []⟩)) (And.intro rfl ?_)
  refine codeAny_call_builtin_at (Code.quiet_builtin _ (by decide +kernel)) entry_typeCall (check_slot tc_kind tc_split (looks_instIn B.k (look_type w.params)) (tc_args _ _ _) ?_)
  unfold Builtin.«type.__call__»
  repeat (first | with_reducible refine wpAny_call ?_ | lk)
  refine code_new_im (s := ⟨hh, gg, dr, tk, os⟩) B ?_
  have t1 := D'.typ (M := model prog w)
  have s1 := looks_subIn (M := model prog w) B'.k (sub_im w.params true)
  have i1 := D'.look (M := model prog w) B' (find_init w.params true)
  have t2 : Looks (model prog w) ((hh.push noDict).push (imObj hh.objs.size)) (isInstance (.ref (hh.objs.size + 1)) (.ref 145)) true := t1.andThen s1
  refine wpAny_bind (t2.at ?_)
  show wpAny _ _ (holding [_] (callSpecial? (.ref (hh.objs.size + 1)) (Str.ofString "__init__") rest []) >>= _) _ _ _
  unfold callSpecial?
  refine wpAny_bind (wpAny_holding (wpAny_bind (i1.at ?_)))
  refine wpAny_holding ?_
  rw [F.slot_dict_init.bind]
  refine wpAny_bind (wpAny_pure (wpAny_bind ?_))
  have hdict := D'.isDict (M := model prog w) B'
  refine callB (owner := "dict") (n := "__init__") (.inl (by decide +kernel)) (by decide +kernel) F.slot_dict_init.plain F.entry_dict_init hdict (ha _) ?_
  refine wpAny_mono h (fun fin s' z => ?_) fun _ _ z => z.elim
  obtain ⟨rfl, z⟩ := z
  exact ⟨_, rfl, wpAny_pure (wpAny_pure z)⟩

/-- immutabledict(x) -/
theorem call_im_D {im : Bool} {o : Addr} {ro : Rw} {Q : Value → Shared → Prop} (B : Base w s.heap) (D : Rows w im s.heap o ro)
    (h : ∀ d h' t', NewR w true s.heap h' d ro → Le s.heap h' → Q (.ref d) { s with heap := h', toks := t' }) :
    wpAny (model prog w) A (call (.ref 145) [.ref o]) Q E s := by
  obtain ⟨eo, eq, D, Ro⟩ := D
  have hn : s.heap.get? (s.heap.objs.size + 1) = none := by
    cases q : s.heap.get? (s.heap.objs.size + 1) with
    | none => rfl
    | some x => exact absurd (Heap.lt_size q) (Nat.not_lt.mpr (Nat.le_succ _))
  refine call_im B (fun a => F.args_dict_init_2 _ _) ?_
  have k : ∀ b o, s.heap.get? b = some o → ((s.heap.push noDict).push (imObj s.heap.objs.size)).get? b = some o := fun b o e => Heap.get?_push_of_some _ (Heap.get?_push_of_some _ e)
  have hx : ((s.heap.push noDict).push (imObj s.heap.objs.size)).get? (s.heap.objs.size + 1) = some (imObj s.heap.objs.size) := by
    have := Heap.get?_push_size (s.heap.push noDict) (o := imObj s.heap.objs.size) rfl
    rwa [Heap.size_push] at this
  have D' : DAt true ((s.heap.push noDict).push (imObj s.heap.objs.size)) (s.heap.objs.size + 1) #[] 0 := by
    refine ⟨?_, some s.heap.objs.size, hx, s.heap.objs.size, rfl, Nat.ne_of_lt (Nat.lt_succ_self _), Heap.get?_push_of_some _ (Heap.get?_push_size _ rfl)⟩
    have := B.size
    show s.heap.objs.size + 1 ≠ 1
    omega
  refine dict_init_D (s := { s with heap := (s.heap.push noDict).push (imObj s.heap.objs.size) }) (B.keeps k) D' (.nil w) hn k D Ro fun h' es' ep' t' D'' R' k' => ?_
  rw [mergeR_of_nil Ro.ok] at R'
  refine ⟨rfl, h _ h' t' (.of D'.1 (D'' _ hx) (Nat.le_succ _) ⟨s.heap.objs.size, rfl, Nat.ne_of_lt (Nat.lt_succ_self _), Nat.le_refl _, k' _ _ (Heap.get?_push_of_some _ (Heap.get?_push_size _ rfl)) (Nat.ne_of_lt (Nat.lt_succ_self _))⟩ R') fun b x q => k' _ _ (k _ _ q) fun e => ?_⟩
  rw [e, hn] at q; cases q

/-- immutabledict() -/
theorem call_im_0 {Q : Value → Shared → Prop} (B : Base w s.heap)
    (h : ∀ d dx h', h'.get? d = some (imObj dx) → h'.get? dx = some noDict → dx ≠ d → s.heap.objs.size ≤ dx → s.heap.objs.size ≤ d → d ≠ sysModules → Le s.heap h' → Q (.ref d) { s with heap := h' }) :
    wpAny (model prog w) A (call (.ref 145) []) Q E s := by
  have hn : s.heap.get? (s.heap.objs.size + 1) = none := by
    cases q : s.heap.get? (s.heap.objs.size + 1) with
    | none => rfl
    | some x => exact absurd (Heap.lt_size q) (Nat.not_lt.mpr (Nat.le_succ _))
  refine call_im B (fun a => F.args_dict_init_1 _) ?_
  have k : ∀ b o, s.heap.get? b = some o → ((s.heap.push noDict).push (imObj s.heap.objs.size)).get? b = some o := fun b o e => Heap.get?_push_of_some _ (Heap.get?_push_of_some _ e)
  have hx : ((s.heap.push noDict).push (imObj s.heap.objs.size)).get? (s.heap.objs.size + 1) = some (imObj s.heap.objs.size) := by
    have := Heap.get?_push_size (s.heap.push noDict) (o := imObj s.heap.objs.size) rfl
    rwa [Heap.size_push] at this
  have D' : DAt true ((s.heap.push noDict).push (imObj s.heap.objs.size)) (s.heap.objs.size + 1) #[] 0 := by
    refine ⟨?_, some s.heap.objs.size, hx, s.heap.objs.size, rfl, Nat.ne_of_lt (Nat.lt_succ_self _), Heap.get?_push_of_some _ (Heap.get?_push_size _ rfl)⟩
    have := B.size
    show s.heap.objs.size + 1 ≠ 1
    omega
  unfold Builtin.«dict.__init__» Builtin.Dict.selfAndRest
  refine wpAny_bind (wpAny_bind ((D'.ordered (B.keeps k)).here ?_))
  refine wpAny_bind (wpAny_pure (wpAny_pure ?_))
  show wpAny _ _ (Builtin.Dict.addKeywords _ [] >>= fun _ => ret .none) _ _ _
  exact wpAny_bind (wpAny_pure (wpAny_pure ⟨rfl, h _ s.heap.objs.size _ hx (Heap.get?_push_of_some _ (Heap.get?_push_size _ rfl)) (Nat.ne_of_lt (Nat.lt_succ_self _)) (Nat.le_refl _) (Nat.le_succ _) D'.1 k⟩))
end
end Mine

set_option Elab.async false
set_option maxRecDepth 100000
set_option linter.unusedVariables false
open PySem PySem.W PyProof.Rows PySem.Calls
namespace Mine

/-! ## frames: a frozen part g, the names m at L, the changing objects -/
def Ch (S : List Addr) (h h' : Heap) : Prop := ∀ b o, h.get? b = some o → b ∉ S → h'.get? b = some o
theorem Ch.refl (S : List Addr) (h : Heap) : Ch S h h := fun _ _ e _ => e
theorem Ch.trans {S : List Addr} {a b c : Heap} (x : Ch S a b) (y : Ch S b c) : Ch S a c := fun q o e n => y q o (x q o e n) n
theorem Ch.mono {S T : List Addr} {a b : Heap} (x : Ch S a b) (hs : ∀ q ∈ S, q ∈ T) : Ch T a b := fun q o e n => x q o e fun z => n (hs q z)
theorem Ch.of_le {S : List Addr} {a b : Heap} (x : Le a b) : Ch S a b := fun q o e _ => x q o e
theorem Ch.le {a b : Heap} (x : Ch [] a b) : Le a b := fun q o e => x q o e (fun z => nomatch z)
theorem Ch.of_same {q : Addr} {a b : Heap} (x : Heap.SameBut q a b) : Ch [q] a b := fun p o e n => (x.2 p fun z => n (z ▸ .head _)).trans e
theorem Ch.push (h : Heap) (o : Obj) : Ch [] h (h.push o) := fun _ _ e _ => Heap.get?_push_of_some _ e
theorem Le.push (h : Heap) (o : Obj) : Le h (h.push o) := fun _ _ e => Heap.get?_push_of_some _ e

structure St (g : Heap) (L : Addr) (m : Str → Option Value) (mv : List (Addr × Obj)) (h : Heap) : Prop where
  ns : h.Ns L m
  keep : Le g h
  off : g.get? L = none
  mv : ∀ p ∈ mv, h.get? p.1 = some p.2 ∧ p.1 ≠ L ∧ g.get? p.1 = none

theorem St.base {w : World} {g h : Heap} {L : Addr} {m mv} (S : St g L m mv h) (B : Base w g) : Base w h := B.keeps S.keep
theorem St.nsLt {g h : Heap} {L : Addr} {m mv} (S : St g L m mv h) : L < h.objs.size := by
  obtain ⟨o, _, _, ho, _⟩ := S.ns; exact Heap.lt_size ho
theorem St.freeze {g h : Heap} {L : Addr} {m mv} (S : St g L m mv h) :
    ∃ g', St g' L m mv h ∧ Le g g' ∧ ∀ b o, h.get? b = some o → b ≠ L → (∀ p ∈ mv, p.1 ≠ b) → g'.get? b = some o := by
  have hi : ∀ b o, h.get? b = some o → b ≠ L → (∀ p ∈ mv, p.1 ≠ b) → (hideAll h (L :: mv.map (·.1))).get? b = some o := fun b o e n1 n2 =>
    hideAll_get _ e fun q => by
      rcases List.mem_cons.mp q with q | q
      · exact n1 q
      · obtain ⟨p, hp, e⟩ := List.mem_map.mp q
        exact n2 p hp e
  refine ⟨hideAll h (L :: mv.map (·.1)), ⟨S.ns, fun b o e => of_hideAll _ e, hideAll_none _ (.head _), fun p hp => ⟨(S.mv p hp).1, (S.mv p hp).2.1, hideAll_none _ (.tail _ (List.mem_map_of_mem hp))⟩⟩, fun b o e => ?_, hi⟩
  refine hi b o (S.keep b o e) (fun q => ?_) fun p hp q => ?_
  · rw [q, S.off] at e; cases e
  · rw [← q, (S.mv p hp).2.2] at e; cases e
theorem St.none {g h : Heap} {L : Addr} {m mv} (S : St g L m mv h) {b : Addr} (e : h.get? b = .none) : g.get? b = .none := by
  cases q : g.get? b with
  | none => rfl
  | some o => rw [S.keep _ _ q] at e; cases e
theorem St.ne {g h : Heap} {L : Addr} {m mv} (S : St g L m mv h) {b : Addr} (e : h.get? b = .none) : b ≠ L := fun q => by
  obtain ⟨o, _, _, ho, _⟩ := S.ns; rw [q, ho] at e; cases e
theorem St.neMut {g h : Heap} {L : Addr} {m mv} (S : St g L m mv h) {b : Addr} (e : h.get? b = .none) : ∀ p ∈ mv, p.1 ≠ b := fun p hp q => by
  rw [← q, (S.mv p hp).1] at e; cases e
/-- any change that leaves L and the changing objects -/
theorem St.le {g h h' : Heap} {L : Addr} {m mv} (S : St g L m mv h) (k : Le h h') : St g L m mv h' :=
  ⟨S.ns.keeps k, fun b o e => k _ _ (S.keep _ _ e), S.off, fun p hp => ⟨k _ _ (S.mv p hp).1, (S.mv p hp).2⟩⟩
theorem St.push {g h : Heap} {L : Addr} {m mv} (S : St g L m mv h) (o : Obj) : St g L m mv (h.push o) := S.le (Le.push h o)
theorem St.set {g h h' : Heap} {L : Addr} {m m' mv} (S : St g L m mv h) (hn : h'.Ns L m') (hs : Heap.SameBut L h h') : St g L m' mv h' :=
  ⟨hn, fun b o e => (hs.2 b fun q => by rw [q, S.off] at e; cases e).trans (S.keep b o e), S.off, fun p hp => ⟨(hs.2 _ (S.mv p hp).2.1).trans (S.mv p hp).1, (S.mv p hp).2⟩⟩
/-- one changing object changes -/
theorem St.upd {g h h' : Heap} {L a : Addr} {m} {o o' : Obj} {pre post : List (Addr × Obj)} (S : St g L m (pre ++ (a, o) :: post) h) (hc : Ch [a] h h') (ho : h'.get? a = some o')
    (hn : ∀ p ∈ pre ++ post, p.1 ≠ a) : St g L m (pre ++ (a, o') :: post) h' := by
  have M := S.mv (a, o) (List.mem_append_right _ (.head _))
  obtain ⟨oL, x1, x2, hL, r⟩ := S.ns
  refine ⟨⟨oL, x1, x2, hc _ _ hL fun q => M.2.1 (List.mem_singleton.mp q).symm, r⟩, fun b ob e => hc _ _ (S.keep _ _ e) fun q => ?_, S.off, fun p hp => ?_⟩
  · have := M.2.2; rw [List.mem_singleton.mp q] at e; rw [e] at this; cases this
  · rcases List.mem_append.mp hp with q | q
    · have P := S.mv p (List.mem_append_left _ q)
      exact ⟨hc _ _ P.1 fun z => hn p (List.mem_append_left _ q) (List.mem_singleton.mp z), P.2⟩
    · rcases List.mem_cons.mp q with rfl | q
      · exact ⟨ho, M.2⟩
      · have P := S.mv p (List.mem_append_right _ (.tail _ q))
        exact ⟨hc _ _ P.1 fun z => hn p (List.mem_append_right _ q) (List.mem_singleton.mp z), P.2⟩
theorem St.sub {g h : Heap} {L : Addr} {m mv mv'} (S : St g L m mv h) (hs : ∀ p ∈ mv', p ∈ mv) : St g L m mv' h := ⟨S.ns, S.keep, S.off, fun p hp => S.mv p (hs p hp)⟩
theorem St.add {g h : Heap} {L a : Addr} {o : Obj} {m mv} (S : St g L m mv h) (ho : h.get? a = some o) (h1 : a ≠ L) (h2 : g.get? a = .none) : St g L m ((a, o) :: mv) h :=
  ⟨S.ns, S.keep, S.off, fun p hp => (List.mem_cons.mp hp).elim (fun e => by rw [e]; exact ⟨ho, h1, h2⟩) fun q => S.mv p q⟩

/-! ## names -/
structure EF (env : Env) (L : Addr) : Prop where
  kind : env.scope.kind = .function
  loc : env.locals = L
  glob : env.globals = mainGlobals
  blt : env.builtins = builtinsNs

abbrev updN (m : Str → Option Value) (x : Str) (v : Value) : Str → Option Value := fun y => if y = x then some v else m y

section
variable {w : World} {M : Model} {A : Around} {E : Value → Shared → Prop} {s : Shared} {env : Env} {g : Heap} {L : Addr} {m : Str → Option Value} {mv : List (Addr × Obj)} {x : Str} {pos : Pos} {v : Value}

theorem nL {Q : Value → Shared → Prop} (X : EF env L) (S : St g L m mv s.heap) (hx : env.kindOf x = some .local) (hv : m x = some v) (h : Q v s) (hd : (x == ("__debug__" : Str)) = false := by decide) :
    wpAny M A (eval (.Name x pos) env) Q E s := wpAny_Name (wpAny_loadName_local X.kind hx (X.loc ▸ S.ns) hv h) hd
theorem lL {Q : Value → Shared → Prop} (X : EF env L) (S : St g L m mv s.heap) (hx : env.kindOf x = some .local) (hv : m x = some v) (h : Q v s) :
    wpAny M A (loadName env x) Q E s := wpAny_loadName_local X.kind hx (X.loc ▸ S.ns) hv h
theorem nK {Q : Value → Shared → Prop} (X : EF env L) (B : Base w s.heap) (hx : env.kindOf x = some .globalImplicit) (e : nsIn (KK w) mainGlobals x = some (some v)) (h : Q v s) (hd : (x == ("__debug__" : Str)) = false := by decide) :
    wpAny M A (eval (.Name x pos) env) Q E s := by
  obtain ⟨mg, G⟩ := B.g
  exact Name_function_global X.kind hx (loadGlobal_global (X.glob.symm ▸ G) (mg_of B.k G e) h) hd
theorem nB {Q : Value → Shared → Prop} (X : EF env L) (B : Base w s.heap) (hx : env.kindOf x = some .globalImplicit) (e : nsIn (KK w) mainGlobals x = some none) (hv : bootBuiltins x = some v) (hn : x ≠ "__name__") (h : Q v s)
    (hd : (x == ("__debug__" : Str)) = false := by decide) : wpAny M A (eval (.Name x pos) env) Q E s := by
  obtain ⟨mg, G⟩ := B.g
  obtain ⟨mb, Gb, e2⟩ := B.b
  exact Name_function_global X.kind hx (loadGlobal_builtin (X.glob.symm ▸ G) (mg_none_of B.k G e) (X.blt.symm ▸ Gb) ((e2 x hn).trans hv) h) hd
theorem nC {Q : Value → Shared → Prop} {c : Addr} (X : EF env L) (hx : env.kindOf x = some .cell) (hc : env.cells.lookup x = some c) (hv : s.heap.IsCell c (some v)) (h : Q v s) (hd : (x == ("__debug__" : Str)) = false := by decide) :
    wpAny M A (eval (.Name x pos) env) Q E s := wpAny_Name (wpAny_loadName_cell X.kind hx hc hv h) hd
theorem sL {Q : Unit → Shared → Prop} (X : EF env L) (S : St g L m mv s.heap) (hx : env.kindOf x = some .local)
    (h : ∀ h', St g L (updN m x v) mv h' → Q () { s with heap := h', toks := s.toks + 1 }) : wpAny M A (storeName env x v) Q E s :=
  wpAny_storeName_local hx (X.loc ▸ S.ns) (fun h' hn hs => h h' (S.set (X.loc ▸ hn) (X.loc ▸ hs))) (by rw [X.kind]; rfl)
end

/-! ## room -/
structure Ok (A : Around) (n : Nat) : Prop where
  depth : A.depth + 4 * n < 600
  units : A.units + 40 * n < 5000
  handled : A.handled = none
  guards : A.guards = some []
theorem Ok.deeper {A : Around} {n : Nat} (h : Ok A (n + 1)) (env : Env) : Ok (A.deeper env) n :=
  ⟨by show A.depth + 1 + 4 * n < 600; have := h.depth; omega, by show A.units + 3 + 40 * n < 5000; have := h.units; omega, h.handled, h.guards⟩
theorem Ok.mono {A : Around} {n m : Nat} (h : Ok A n) (hm : m ≤ n) : Ok A m := ⟨by have := h.depth; omega, by have := h.units; omega, h.handled, h.guards⟩
theorem Ok.in1 {A : Around} {n : Nat} (h : Ok A (n + 1)) : Ok A.in1 n := ⟨by show A.depth + 4 * n < 600; have := h.depth; omega, by show A.units + 1 + 40 * n < 5000; have := h.units; omega, h.handled, h.guards⟩
theorem Ok.room {A : Around} {n : Nat} (h : Ok A n) : A.depth < recursionLimit := by have := h.depth; show A.depth < 1000; omega
theorem Ok.line {A : Around} {n : Nat} (h : Ok A n) : A.units < cLine := by have := h.units; show A.units < 9900; omega

end Mine

set_option Elab.async false
set_option maxRecDepth 100000
set_option maxHeartbeats 8000000
set_option linter.unusedVariables false
open PySem PySem.W PyProof.Rows PySem.Calls
namespace Mine

def fdAt (K : Frag) (a : Addr) : FuncData := match K.lookup a with
  | some ⟨_, _, .func fd, _⟩ => fd
  | _ => default

theorem get_none_of_size (h : Heap) : h.get? h.objs.size = none := by
  cases q : h.get? h.objs.size with
  | none => rfl
  | some x => exact absurd (Heap.lt_size q) (Nat.lt_irrefl _)

section
variable {w : World} {A : Around} {s : Shared}

/-- a call of one of the text's own defs that keeps no cells and does not raise -/
theorem callFn {n : Nat} {a : Addr} {fd : FuncData} {body : List Stmt} {args : Args} {binds : List (Str × Value)} {R : Result → Shared → Prop} (O : Ok A (n + 1)) (B : Base w s.heap)
    (ho : List.lookup a (KK w) = some ⟨.type "function", none, .func fd, #[]⟩) (hcode : codeIn (KK w) fd.code fd.qualname = true) (hbody : fd.body = .stmts body) (hbind : bindArgs fd args = pure binds)
    (hcell : (fd.scope.names.all fun x => x.2 != .cell) = true) (hloc : (binds.all fun x => fd.scope.names.lookup x.1 == some .local) = true)
    (hsc : (fd.scope.isCoroutine, fd.scope.isGenerator, fd.scope.kind, fd.globals, fd.builtins) = (false, false, .function, mainGlobals, builtinsNs))
    (h : ∀ env L h₀, env = callEnv fd L a → EF env L → s.heap.get? L = none → St s.heap L (fun x => binds.reverse.lookup x) [] h₀ → Ok (A.deeper env) n →
      wpAny (model Pg w) (A.deeper env) (execs body env) (fun f s' => R (.ok (.ret (match f with | .ret v => v | _ => .none))) s') (fun _ _ => False) { s with heap := h₀, toks := s.toks + binds.length }) :
    codeAny (model Pg w) A (.call (.ref a) args) R s := by
  obtain ⟨hco, hgen, hk, hg, hb⟩ : fd.scope.isCoroutine = false ∧ fd.scope.isGenerator = false ∧ fd.scope.kind = .function ∧ fd.globals = mainGlobals ∧ fd.builtins = builtinsNs := by
    simp only [Prod.mk.injEq] at hsc; exact hsc
  have hcell' : ∀ x ∈ fd.scope.names, x.2 ≠ .cell := fun x hx e => by
    have := List.all_eq_true.mp hcell x hx; rw [e] at this; cases this
  have hloc' : ∀ x ∈ binds, fd.scope.names.lookup x.1 = some .local := fun x hx => by
    have := List.all_eq_true.mp hloc x hx; simpa using this
  refine codeAny_call_def O.room (B.k _ _ ho) rfl B.lim (codeRec_of B.k hcode) hbody (BindsTo.of_eq hbind) hcell' hloc' (fun h₀ hn hk₀ => ?_) hco hgen hk
  refine wpAny_mono (h (callEnv fd s.heap.objs.size a) s.heap.objs.size h₀ rfl ⟨hk, rfl, hg, hb⟩ (get_none_of_size _) ⟨hn, hk₀, get_none_of_size _, fun _ q => (nomatch q)⟩ (O.deeper _)) (fun _ _ q => q) fun _ _ q => q.elim
end

theorem St.thaw {g h : Heap} {L a : Addr} {o : Obj} {m mv} (S : St g L m mv h) (ho : g.get? a = some o) : St (g.hide a) L m ((a, o) :: mv) h := by
  have hn : a ≠ L := fun q => by rw [q, S.off] at ho; cases ho
  refine ⟨S.ns, fun b x e => S.keep _ _ (Heap.of_hide e), ?_, fun p hp => ?_⟩
  · cases q : (g.hide a).get? L with
    | none => rfl
    | some x => have := Heap.of_hide q; rw [S.off] at this; cases this
  · rcases List.mem_cons.mp hp with rfl | hp
    · exact ⟨S.keep _ _ ho, hn, Heap.hide_self g a⟩
    · refine ⟨(S.mv p hp).1, (S.mv p hp).2.1, ?_⟩
      cases q : (g.hide a).get? p.1 with
      | none => rfl
      | some x => have := Heap.of_hide q; rw [(S.mv p hp).2.2] at this; cases this
theorem hide_le {g h : Heap} {a : Addr} (hn : g.get? a = none) (k : Le g h) : Le g (h.hide a) := fun b o e => (Heap.hide_ne h fun q => by rw [q, hn] at e; cases e).trans (k _ _ e)
theorem ch_of_hide {h h' : Heap} {a : Addr} (k : Le (h.hide a) h') : Ch [a] h h' := fun b o e n => k _ _ ((Heap.hide_ne h fun q => n (List.mem_singleton.mpr q)).trans e)

/-! ## the law's numbers: the state list -/
structure StOk (w : World) (h : Heap) (st l : Addr) : Prop where
  base : ∃ H₀, Base w H₀ ∧ Le H₀ h ∧ H₀.get? st = none
  now : ∃ (i x : Int) (t₁ t₂ : Tok), h.IsList st #[.ref l, .int i t₁, .int x t₂] ∧ 0 ≤ i ∧ i ≤ 63 ∧ 0 ≤ x ∧ x < 2147483647
  its : ∃ vs ns, h.IsList l vs.toArray ∧ IntsAre vs ns ∧ ns.length ≤ 63
  ne : st ≠ l
theorem StOk.b {w : World} {h : Heap} {st l : Addr} (x : StOk w h st l) : Base w h := let ⟨_, B, k, _⟩ := x.base; B.keeps k
theorem StOk.le {w : World} {h h' : Heap} {st l : Addr} (x : StOk w h st l) (k : Le h h') : StOk w h' st l := by
  obtain ⟨⟨H₀, B, k₀, n⟩, ⟨i, y, t₁, t₂, ⟨o, ho, r⟩, q⟩, ⟨vs, ns, ⟨o', ho', r'⟩, q'⟩, hne⟩ := x
  exact ⟨⟨H₀, B, fun b o e => k _ _ (k₀ _ _ e), n⟩, ⟨i, y, t₁, t₂, ⟨o, k _ _ ho, r⟩, q⟩, ⟨vs, ns, ⟨o', k _ _ ho', r'⟩, q'⟩, hne⟩
theorem IsList.ch {h h' : Heap} {a : Addr} {items : Array Value} {S : List Addr} (x : h.IsList a items) (k : Ch S h h') (h1 : a ∉ S) : h'.IsList a items :=
  let ⟨o, ho, r⟩ := x; ⟨o, k _ _ ho h1, r⟩

theorem code156 (P : Params) : codeIn (hd.heap_39 P) (fdAt (hd.heap_39 P) 156).code (fdAt (hd.heap_39 P) 156).qualname = true := by kernel_rfl
theorem obj156 (P : Params) : List.lookup 156 (hd.heap_39 P) = some ⟨.type "function", none, .func (fdAt (hd.heap_39 P) 156), #[]⟩ := by kernel_rfl
theorem bind156 (P : Params) (v1 v2 : Value) : bindArgs (fdAt (hd.heap_39 P) 156) ⟨[v1, v2], []⟩ = pure [(Str.ofString "state", v1), (Str.ofString "many", v2)] := by kernel_rfl
theorem cell156 (P : Params) : ((fdAt (hd.heap_39 P) 156).scope.names.all fun x => x.2 != .cell) = true := by kernel_rfl
theorem scope156 (P : Params) : ((fdAt (hd.heap_39 P) 156).scope.isCoroutine, (fdAt (hd.heap_39 P) 156).scope.isGenerator, (fdAt (hd.heap_39 P) 156).scope.kind, (fdAt (hd.heap_39 P) 156).globals, (fdAt (hd.heap_39 P) 156).builtins) = (false, false, .function, mainGlobals, builtinsNs) := by kernel_rfl

/-! ## forms of calls -/
section
variable {w : World} {M : Model} {A : Around} {E : Value → Shared → Prop} {s : Shared} {env : Env} {pos : Pos} {f : Value} {first : List Value} {Q : Value → Shared → Prop} {t t1 t2 : Sem Value}
theorem cwK1 (hk : keepIn (KK w) f = true) (h : wpAny M A t (fun v s₁ => Base w s₁.heap ∧ wpAny M A (call f (first ++ [v])) Q E s₁) E s) : wpAny M A (callWith pos f first [(false, t)] []) Q E s :=
  callWith_of rfl (keeps_K hk) (evalArgs_plain (spliced_cons (wpAny_mono h (fun v s₁ h₁ => spliced_nil ⟨h₁.1.k, h₁.2⟩) fun _ _ e => e)))
theorem cwK2 (hk : keepIn (KK w) f = true) (h : wpAny M A t1 (fun v₁ s₁ => wpAny M A t2 (fun v₂ s₂ => Base w s₂.heap ∧ wpAny M A (call f (first ++ [v₁, v₂])) Q E s₂) E s₁) E s) : wpAny M A (callWith pos f first [(false, t1), (false, t2)] []) Q E s :=
  callWith_of rfl (keeps_K hk) (evalArgs_plain (spliced_cons (wpAny_mono h (fun v s₁ h₁ => spliced_cons (wpAny_mono h₁ (fun v₂ s₂ h₂ => spliced_nil ⟨h₂.1.k, h₂.2⟩) fun _ _ e => e)) fun _ _ e => e)))
theorem cwK0 (B : Base w s.heap) (hk : keepIn (KK w) f = true) (h : wpAny M A (call f (first ++ [])) Q E s) : wpAny M A (callWith pos f first [] []) Q E s :=
  callWith_of rfl (keeps_K hk) (evalArgs_nil3 ⟨B.k, h⟩)
theorem cwB1 {id : String} (h : wpAny M A t (fun v s₁ => wpAny M A (call (.builtin id) (first ++ [v])) Q E s₁) E s) : wpAny M A (callWith pos (.builtin id) first [(false, t)] []) Q E s :=
  callWith_builtin rfl (evalArgs_plain (spliced_cons (wpAny_mono h (fun _ _ h₁ => spliced_nil h₁) fun _ _ e => e)))
theorem cwB2 {id : String} (h : wpAny M A t1 (fun v₁ s₁ => wpAny M A t2 (fun v₂ s₂ => wpAny M A (call (.builtin id) (first ++ [v₁, v₂])) Q E s₂) E s₁) E s) : wpAny M A (callWith pos (.builtin id) first [(false, t1), (false, t2)] []) Q E s :=
  callWith_builtin rfl (evalArgs_plain (spliced_cons (wpAny_mono h (fun _ _ h₁ => spliced_cons (wpAny_mono h₁ (fun _ _ h₂ => spliced_nil h₂) fun _ _ e => e)) fun _ _ e => e)))
theorem cwB0 {id : String} (h : wpAny M A (call (.builtin id) (first ++ [])) Q E s) : wpAny M A (callWith pos (.builtin id) first [] []) Q E s :=
  callWith_builtin rfl (evalArgs_nil3 h)
theorem cwT1 {T : String} (h : wpAny M A t (fun v s₁ => wpAny M A (call (.type T) [v]) Q E s₁) E s) : wpAny M A (callWith pos (.type T) [] [(false, t)] []) Q E s :=
  PyProof.Rows.callWith_type rfl (evalArgs_plain (spliced_cons (wpAny_mono h (fun _ _ h₁ => spliced_nil h₁) fun _ _ e => e)))
end

theorem boots : bootBuiltins "len" = some (.builtin "len") ∧ bootBuiltins "abs" = some (.builtin "abs") ∧ bootBuiltins "range" = some (.type "range") ∧ bootBuiltins "dict" = some (.type "dict") ∧ bootBuiltins "isinstance" = some (.builtin "isinstance") ∧
    bootBuiltins "list" = some (.type "list") ∧ bootBuiltins "repr" = some (.builtin "repr") ∧ bootBuiltins "TypeError" = some (.type "TypeError") := by decide +kernel
theorem notMine (P : Params) : (["len", "abs", "range", "dict", "isinstance", "list", "repr", "TypeError"].all fun x => nsIn (hd.heap_39 P) mainGlobals (Str.ofString x) == some none) = true := by kernel_rfl
theorem notMine_of {w : World} (x : String) (h : x ∈ ["len", "abs", "range", "dict", "isinstance", "list", "repr", "TypeError"]) : nsIn (KK w) mainGlobals (Str.ofString x) = some none := by
  have := List.all_eq_true.mp (notMine w.params) x h; simpa using this

local macro_rules | `(tactic| walk_at "m_s") => `(tactic| first
  | with_reducible refine wpAny_execs_cons ?_
  | with_reducible refine wpAny_execs_nil ?_
  | with_reducible refine wpAny_If ?_
  | with_reducible refine wpAny_Return_some ?_
  | ((with_reducible refine wpAny_Assign_Name ?_ ?hs); (case hs => with_unfolding_all rfl))
  | ((with_reducible refine wpAny_Assign_Subscript ?_ ?hs); (case hs => with_unfolding_all rfl))
  | with_reducible refine wpAny_BinOp ?_
  | ((with_reducible refine wpAny_Compare1 ?_ ?hm); (case hm => with_unfolding_all rfl))
  | ((with_reducible refine wpAny_isTrue_Compare1 ?_ ?hm); (case hm => with_unfolding_all rfl))
  | with_reducible refine wpAny_Constant_int ?_
  | with_reducible refine Constant_str ?_
  | with_reducible refine Constant_bool ?_
  | with_reducible refine Constant_none ?_
  | with_reducible refine Subscript_ ?_
  | with_reducible refine wpAny_truthy_bool ?_
  | ((with_reducible refine' nL (by assumption) (by assumption) (by assumption) ?hv ?_ ?hd); (case hd => decide); (case hv => first | assumption | with_unfolding_all rfl)))

section
variable {w : World} {A : Around} {E : Value → Shared → Prop} {s : Shared}
theorem item_any {value slice : Expr} {l : Addr} {items : Array Value} {k : Int} {u : Tok} {x : Value} {Q : Value → Shared → Prop} (hl : s.heap.IsList l items)
    (h0 : 0 ≤ k) (hfit : k < 2 ^ 63) (hx : items[k.toNat]? = some x) (h : Q x s)
    (hs : subscripted slice false (.ref l) (.int k u) = operate [.ref l, .int k u] (getItem (.ref l) (.int k u)) := by with_unfolding_all rfl) :
    wpAny (model Pg w) A (subscriptTail value slice (.ref l) (.int k u)) Q E s :=
  tail_any hl.typeIs slot_list_getitem.lookup (wpAny_getItem_list hl h0 hfit hx h) hs
end

section
variable {w : World} {A : Around} {s : Shared}
theorem next_spec {n : Nat} {st l : Addr} {many : Int} {u : Tok} {R : Result → Shared → Prop} (O : Ok A (n + 1)) (X : StOk w s.heap st l) (hm : 0 < many)
    (h : ∀ (r : Int) tk h' t', 0 ≤ r → r < many → StOk w h' st l → Ch [st] s.heap h' → R (.ok (.ret (.int r tk))) { s with heap := h', toks := t' }) :
    codeAny (model Pg w) A (.call (.ref 156) ⟨[.ref st, .int many u], []⟩) R s := by
  refine callFn O X.b (obj156 w.params) (code156 w.params) rfl (bind156 w.params (.ref st) (.int many u)) (cell156 w.params) (by kernel_rfl) (scope156 w.params) ?_
  intro env L h₀ he EE hL S₀ O'
  have k1 : env.kindOf (Str.ofString "state") = some .local := by subst he; rfl
  have k2 : env.kindOf (Str.ofString "many") = some .local := by subst he; rfl
  have k3 : env.kindOf (Str.ofString "found") = some .local := by subst he; rfl
  have k4 : env.kindOf (Str.ofString "len") = some .globalImplicit := by subst he; rfl
  have k5 : env.kindOf (Str.ofString "abs") = some .globalImplicit := by subst he; rfl
  clear he
  obtain ⟨⟨H₀, BH, kH, nH⟩, ⟨i, x, t₁, t₂, hst, i0, i1, x0, x1⟩, ⟨vs, ns, hl, hI, hns⟩, hne⟩ := X
  obtain ⟨o, ho, hc, ep, hd⟩ := id hst
  have S := S₀.thaw ho
  have kg := hide_le nH kH
  have Bg := BH.keeps kg
  have hlg : (s.heap.hide st).IsList l vs.toArray := let ⟨o', ho', r⟩ := hl; ⟨o', (Heap.hide_ne _ (Ne.symm hne)).trans ho', r⟩
  have hch : ∀ h', Le (s.heap.hide st) h' → Ch [st] s.heap h' := fun h' q => ch_of_hide q
  have hgn : (s.heap.hide st).get? st = none := Heap.hide_self _ _
  generalize s.heap.hide st = g at *
  have fin : ∀ (r : Int) tk m' o' h' t' (i' x' : Int) (t₁' t₂' : Tok), St g L m' [(st, o')] h' → h'.IsList st #[.ref l, .int i' t₁', .int x' t₂'] → 0 ≤ i' → i' ≤ 63 → 0 ≤ x' → x' < 2147483647 → 0 ≤ r → r < many →
      R (.ok (.ret (.int r tk))) { s with heap := h', toks := t' } := fun r tk m' o' h' t' i' x' t₁' t₂' S' hst' a1 a2 a3 a4 a5 a6 =>
    h r tk h' t' a5 a6 ⟨⟨H₀, BH, fun b o e => S'.keep _ _ (kg _ _ e), nH⟩, ⟨i', x', t₁', t₂', hst', a1, a2, a3, a4⟩, ⟨vs, ns, let ⟨o', ho', r⟩ := hlg; ⟨o', S'.keep _ _ ho', r⟩, hI, hns⟩, hne⟩ (hch _ S'.keep)
  have hst₀ : h₀.IsList st #[.ref l, .int i t₁, .int x t₂] := ⟨o, (S.mv _ (.head _)).1, hc, ep, hd⟩
  have lst : ∀ {h' : Heap}, Le g h' → h'.IsList l vs.toArray := fun k => let ⟨o', ho', r⟩ := hlg; ⟨o', k _ _ ho', r⟩
  have hlen : vs.length = ns.length := hI.length
  repeat walk_at "m_s"
  refine item_any hst₀ (by decide) (by decide) rfl ?_
  refine Call_Name1 (nB EE (S.base Bg) k4 (notMine_of "len" (by decide)) boots.1 (by decide) (cwB1 ?_)) rfl
  repeat walk_at "m_s"
  refine item_any hst₀ (by decide) (by decide) rfl ?_
  refine len_list (items := vs.toArray) (lst S.keep) (by simp; omega) ?_
  refine lt_int ?_
  refine wpAny_truthy_bool ?_
  have hsz : vs.toArray.size = ns.length := by simp [hlen]
  rw [hsz]
  by_cases hi : i < (ns.length : Int)
  · rw [decide_eq_true hi]
    show wpAny _ _ (execs _ _) _ _ _
    repeat walk_at "m_s"
    refine Call_Name1 (nB EE (S.base Bg) k5 (notMine_of "abs" (by decide)) boots.2.1 (by decide) (cwB1 ?_)) rfl
    repeat walk_at "m_s"
    refine item_any hst₀ (by decide) (by decide) rfl ?_
    repeat walk_at "m_s"
    refine item_any hst₀ (by decide) (by decide) rfl ?_
    obtain ⟨j, rfl⟩ := Int.eq_ofNat_of_zero_le i0
    have hj : j < vs.length := by omega
    obtain ⟨tv, hv⟩ := hI.int_at j vs[j] (List.getElem?_eq_getElem hj)
    refine item_any (x := .int (ns.getD j 0) tv) (lst S.keep) i0 (by omega) (by simp [hj, hv]) ?_
    refine call_abs_int fun u₁ tk₁ => ?_
    refine sL EE S k3 fun h1 S1 => ?_
    dsimp only
    have hst1 : h1.IsList st #[.ref l, .int j t₁, .int x t₂] := ⟨o, (S1.mv _ (.head _)).1, hc, ep, hd⟩
    repeat walk_at "m_s"
    refine item_any hst1 (by decide) (by decide) rfl ?_
    repeat walk_at "m_s"
    refine add_int ?_
    repeat walk_at "m_s"
    refine wpAny_setItem_list hst1 (by decide) (by decide) (by simp) fun h2 hst2 hs2 => ?_
    obtain ⟨o2, ho2, hc2, ep2, hd2⟩ := id hst2
    have S2 := S1.upd (pre := []) (post := []) (Ch.of_same hs2) ho2 (fun p q => nomatch q)
    dsimp only
    repeat walk_at "m_s"
    refine item_any hst2 (by decide) (by decide) rfl ?_
    repeat walk_at "m_s"
    refine mul_int ?_ (IntMulOk.of_right (by decide +kernel))
    repeat walk_at "m_s"
    refine add_int ?_
    repeat walk_at "m_s"
    refine mod_int' (by decide) ?_
    repeat walk_at "m_s"
    refine wpAny_setItem_list hst2 (by decide) (by decide) (by simp) fun h3 hst3 hs3 => ?_
    obtain ⟨o3, ho3, hc3, ep3, hd3⟩ := id hst3
    have S3 := S2.upd (pre := []) (post := []) (Ch.of_same hs3) ho3 (fun p q => nomatch q)
    dsimp only
    repeat walk_at "m_s"
    refine mod_int' (by omega) ?_
    refine fin _ _ _ _ _ _ (j + 1) _ _ _ S3 hst3 (by omega) (by omega) (fmod_lo _ (by decide)) (fmod_hi _ (by decide)) (fmod_lo _ hm) (fmod_hi _ hm)
  · rw [decide_eq_false hi]
    show wpAny _ _ (execs _ _) _ _ _
    repeat walk_at "m_s"
    dsimp only
    repeat walk_at "m_s"
    refine item_any hst₀ (by decide) (by decide) rfl ?_
    repeat walk_at "m_s"
    refine mul_int ?_ (IntMulOk.of_right (by decide +kernel))
    repeat walk_at "m_s"
    refine add_int ?_
    repeat walk_at "m_s"
    refine mod_int' (by decide) ?_
    repeat walk_at "m_s"
    refine wpAny_setItem_list hst₀ (by decide) (by decide) (by simp) fun h3 hst3 hs3 => ?_
    obtain ⟨o3, ho3, hc3, ep3, hd3⟩ := id hst3
    have S3 := S.upd (pre := []) (post := []) (Ch.of_same hs3) ho3 (fun p q => nomatch q)
    dsimp only
    repeat walk_at "m_s"
    refine item_any hst3 (by decide) (by decide) rfl ?_
    repeat walk_at "m_s"
    have y0 := fmod_lo (x * 48271 + 11) (n := 2147483647) (by decide)
    have y1 := fmod_hi (x * 48271 + 11) (n := 2147483647) (by decide)
    refine floordiv_int (by decide) ?_ (Or.inl (PyProof.noPylong_small (by omega)))
    repeat walk_at "m_s"
    refine mod_int' (by omega) ?_
    exact fin _ _ _ _ _ _ i _ _ _ S3 hst3 i0 i1 y0 y1 (fmod_lo _ hm) (fmod_hi _ hm)
end
end Mine

set_option Elab.async false
set_option maxRecDepth 100000
set_option maxHeartbeats 4000000
set_option linter.unusedVariables false
open PySem PySem.W PyProof.Rows PySem.Calls
namespace Mine

theorem Ch.hidden {T : List Addr} {h h' : Heap} (x : Ch T h h') : Le (hideAll h T) (hideAll h' T) := fun b o e => by
  have n : b ∉ T := fun q => by rw [hideAll_none T q] at e; cases e
  exact hideAll_get T (x b o (of_hideAll T e) n) n
abbrev Off (g : Heap) (T : List Addr) : Prop := ∀ b ∈ T, g.get? b = none
theorem Off.le {g h : Heap} {T : List Addr} (x : Off g T) (k : Le g h) : Le g (hideAll h T) := fun b o e => hideAll_get T (k _ _ e) fun q => by rw [x b q] at e; cases e
theorem Ch.le_off {S : List Addr} {g h h' : Heap} (x : Ch S h h') (k : Le g h) (o : Off g S) : Le g h' := fun b ob e => x b ob (k _ _ e) fun q => by rw [o b q] at e; cases e
theorem get_none_ge {h : Heap} {a : Addr} (ha : h.objs.size ≤ a) : h.get? a = none := by
  cases e : h.get? a with
  | none => rfl
  | some o' => exact absurd (Heap.lt_size e) (Nat.not_lt.mpr ha)
theorem ne_none {h : Heap} {a b : Addr} {o : Obj} (e : h.get? a = some o) (n : h.get? b = none) : a ≠ b := fun q => by rw [q, n] at e; cases e

structure TurnEnd (T S : List Addr) (C : Addr) (P : Heap → Prop) (s : Shared) (s' : Shared) : Prop where
  out : ∃ g' m' h' tk, s' = { s with heap := h', toks := tk } ∧ Ch (C :: S) s.heap h' ∧ h'.Ns C m' ∧ Le g' h' ∧ Off g' T ∧ P g'

section
variable {prog : Program} {w : World} {A : Around} {E : Value → Shared → Prop} {env : Env}

theorem comp_blockJ {elt target iter : Expr} {ifs : List Expr} {scope : Scope} {cl : List (Str × Addr)} {pos : Pos} {s₂ : Shared} {I : Addr} {fp wr : List Addr} {n : Nat} {P : Nat → Value → Prop}
    {StI : Nat → Heap → Prop} (W : Walks prog w A I fp wr n P StI) (hsz : n ≤ sizeLine) (S X : List Addr) (J : Nat → List Value → Heap → Prop) {RR : Value → Addr → Result → Shared → Prop}
    (hcell : ∀ y ∈ scope.names, y.2 ≠ .cell) (hkind : scope.kind = .function) (ht : ∀ v, letOwnedTupleGo target (.ref I) v = pure ())
    (hst : StI 0 s₂.heap) (hfp : ∀ b ∈ fp, b < s₂.heap.objs.size) (hS : ∀ b ∈ S, b < s₂.heap.objs.size ∧ b ∉ fp) (hX : ∀ b ∈ X, b < s₂.heap.objs.size)
    (hJm : ∀ i ys g g', Le g g' → J i ys g → J i ys g') (hJ0 : J 0 [] (hideAll s₂.heap (wr ++ X)))
    (turn : ∀ C D i v ys g m s₃ E', s₂.heap.get? C = none → s₂.heap.get? D = none → i < n → P i v → StI (i + 1) s₃.heap → (∃ o, s₃.heap.get? D = some o) → St g C m [] s₃.heap → Off g (C :: D :: wr ++ X) →
      (∀ b o, s₃.heap.get? b = some o → b ∉ (C :: D :: wr ++ X) → g.get? b = some o) → Ch (S ++ wr) s₂.heap s₃.heap → J i ys g →
      wpAny (model prog w) A (assign target (compEnvC scope cl C env) v) (fun _ s₄ =>
        wpAny (model prog w) A (forIn ifs true fun c r => if r = true then do let ok ← isTrue c (compEnvC scope cl C env) (eval c (compEnvC scope cl C env)); pure (ForInStep.yield ok) else pure (ForInStep.yield r)) (fun ok s₅ =>
          if ok = true then wpAny (model prog w) A (eval elt (compEnvC scope cl C env)) (fun y s₆ => TurnEnd (C :: D :: wr ++ X) S C (J (i + 1) (ys ++ [y])) s₃ s₆) E' s₅
          else TurnEnd (C :: D :: wr ++ X) S C (J (i + 1) ys) s₃ s₅) E' s₄) E' s₃)
    (hRR : ∀ D C g h' tk m' ys, s₂.heap.get? D = none → s₂.heap.get? C = none → D ≠ C → h'.Ns C m' → h'.PlainList D ys.toArray → ys.length ≤ n → Le g h' → Off g (C :: D :: wr ++ X) → J n ys g →
      Ch (S ++ wr) s₂.heap h' → RR (.ref D) C (.ok .next) { s₂ with heap := h', toks := tk }) :
    wpAny (model prog w) A (newList []) (fun acc s₃ => wpAny (model prog w) A (newFunctionEnv scope env.globals cl [] env.qual none .none (some env)) (fun cenv s₄ =>
      codeAny (model prog w) A (.compStart (.ListComp elt [⟨target, iter, ifs, 0⟩] scope pos) 0 (.ref I) acc { cenv with scope := relabel scope env }) (RR acc cenv.locals) s₄) E s₃) E s₂ := by
  refine wpAny_newObj_type (wpAny_newFunctionEnv hcell (by intro y hy; simp at hy) (fun h₁ hns₁ hsb₁ => ?_) hkind)
  dsimp only at hns₁ hsb₁ ⊢
  generalize hH2 : s₂.heap.push { cls := .type "list", dict := none, data := .seq ([] : List Value).toArray } = H2 at hns₁ hsb₁ ⊢
  have hC : H2.objs.size = s₂.heap.objs.size + 1 := by rw [← hH2, Heap.size_push]
  have hDC : s₂.heap.objs.size ≠ H2.objs.size := by rw [hC]; exact Nat.ne_of_lt (Nat.lt_succ_self _)
  have below : ∀ b, b < s₂.heap.objs.size → b ≠ H2.objs.size ∧ b ≠ s₂.heap.objs.size := fun b hb => ⟨by rw [hC]; exact Nat.ne_of_lt (Nat.lt_succ_of_lt hb), Nat.ne_of_lt hb⟩
  have old : ∀ b o, s₂.heap.get? b = some o → h₁.get? b = some o := fun b o e => hsb₁.extBut b o (below b (Heap.lt_size e)).1 (Heap.get?_push_of_some _ (hH2 ▸ Heap.get?_push_of_some _ e))
  have hacc : h₁.PlainList s₂.heap.objs.size #[] := ⟨_, hsb₁.extBut _ _ hDC (Heap.get?_push_of_some _ (hH2 ▸ Heap.get?_push_size _ rfl))⟩
  have hDn : s₂.heap.get? s₂.heap.objs.size = none := get_none_ge (Nat.le_refl _)
  have hCn : s₂.heap.get? H2.objs.size = none := get_none_ge (by rw [hC]; exact Nat.le_succ _)
  have hst₁ : StI 0 h₁ := W.frame _ _ _ hst fun b _ o e => old b o e
  generalize hDd : s₂.heap.objs.size = D at *
  generalize hCc : H2.objs.size = C at *
  have hDf : D ∉ fp := fun hm => Nat.lt_irrefl _ (hfp _ hm)
  have hCf : C ∉ fp := fun hm => (below _ (hfp _ hm)).1 rfl
  have hDS : D ∉ S := fun hm => Nat.lt_irrefl _ (hS _ hm).1
  have hCS : C ∉ S := fun hm => (below _ (hS _ hm).1).1 rfl
  have hDw : D ∉ wr := fun h => hDf (W.sub _ h)
  have hCw : C ∉ wr := fun h => hCf (W.sub _ h)
  have loop : ∀ s₃ : Shared, s₃ = { s₂ with heap := h₁, toks := s₂.toks + ([] : List (Str × Value)).length } →
      codeAny (model prog w) A (.compLoop (.ListComp elt [⟨target, iter, ifs, 0⟩] scope pos) 0 (.ref I) (.ref D) (compEnvC scope cl C env)) (RR (.ref D) C) s₃ := by
    rintro s₃ rfl
    refine codeAny_compLoop_tests (fun k s' => ∃ h' tk m' ys i, s' = { s₂ with heap := h', toks := tk } ∧ i ≤ n ∧ k = n + 1 - i ∧ StI i h' ∧ h'.PlainList D ys.toArray ∧ h'.Ns C m' ∧ ys.length ≤ i ∧
      Ch (S ++ wr) s₂.heap h' ∧ J i ys (hideAll h' (C :: D :: wr ++ X))) ?_ (n + 1) ?_ ht
    · rintro k s' ⟨h', tk, m', ys, i, rfl, hi, rfl, hst', hacc', hns', hlen, hch, hJ⟩
      by_cases hlt : i < n
      · refine W.item i _ _ _ hlt hst' fun v h₂ tk₂ hPv hst₂ hk₂ => ?_
        dsimp only
        have c₂ : Ch wr h' h₂ := fun b o e hn => hk₂ b o hn e
        have hns₂ := hns'.at' fun o e => hk₂ C o hCw e
        have cT : Ch (C :: D :: wr ++ X) h' h₂ := c₂.mono fun q hq => List.mem_append_left _ (.tail _ (.tail _ hq))
        refine wpAny_mono (turn C D i v ys (hideAll h₂ (C :: D :: wr ++ X)) m' { s₂ with heap := h₂, toks := tk₂ } _ hCn hDn hlt hPv hst₂ ⟨_, hk₂ D _ hDw hacc'.choose_spec⟩ ⟨hns₂, fun b o e => of_hideAll _ e, hideAll_none _ (.head _), fun p hp => nomatch hp⟩
          (fun b hb => hideAll_none _ hb) (fun b o e hn => hideAll_get _ e hn) (hch.trans (c₂.mono fun q hq => List.mem_append_right _ hq)) (hJm _ _ _ _ cT.hidden hJ)) (fun _ s₄ h₄ => wpAny_mono h₄ (fun ok s₅ h₅ => ?_) fun _ _ e => e) fun _ _ e => e
        have fin : ∀ (ys' : List Value) s', TurnEnd (C :: D :: wr ++ X) S C (J (i + 1) ys') { s₂ with heap := h₂, toks := tk₂ } s' → ∃ g' m' h' tk, s' = { s₂ with heap := h', toks := tk } ∧ StI (i + 1) h' ∧ h'.PlainList D ys.toArray ∧ h'.Ns C m' ∧ Le g' h' ∧ Off g' (C :: D :: wr ++ X) ∧ J (i + 1) ys' g' ∧ Ch (S ++ wr) s₂.heap h' := by
          rintro ys' s' ⟨g', m₁, h₁, tk₁, rfl, hc, hns, hle, hoff, hj⟩
          refine ⟨g', m₁, h₁, tk₁, rfl, W.frame _ _ _ hst₂ fun b hb o e => hc b o e fun q => ?_, (hacc'.at fun o e => hk₂ _ o hDw e).at fun o e => hc _ o e fun q => ?_, hns, hle, hoff, hj, fun b o e hn => ?_⟩
          · rcases List.mem_cons.mp q with q | q
            · exact hCf (q ▸ hb)
            · exact (hS _ q).2 hb
          · rcases List.mem_cons.mp q with q | q
            · exact hDC q
            · exact hDS q
          · refine hc b o (hk₂ b o (fun q => hn (List.mem_append_right _ q)) (hch b o e hn)) fun q => ?_
            rcases List.mem_cons.mp q with q | q
            · exact ne_none e hCn q
            · exact hn (List.mem_append_left _ q)
        cases ok with
        | false =>
          obtain ⟨g', m₁, h₁, tk₁, rfl, a1, a2, a3, a4, a5, a6, a7⟩ := fin _ _ h₅
          exact ⟨n + 1 - (i + 1), by omega, h₁, tk₁, m₁, ys, i + 1, rfl, hlt, rfl, a1, a2, a3, by omega, a7, hJm _ _ _ _ (a5.le a4) a6⟩
        | true =>
          refine wpAny_mono h₅ (fun y s₆ h₆ => ?_) fun _ _ e => e
          obtain ⟨g', m₁, h₁, tk₁, rfl, a1, a2, a3, a4, a5, a6, a7⟩ := fin _ _ h₆
          refine wpAny_list_append_plain (hsz := by simp; omega) a2 fun h₅ hl₅ hs₅ => ?_
          refine ⟨n + 1 - (i + 1), by omega, h₅, tk₁, m₁, ys ++ [y], i + 1, rfl, hlt, rfl, W.frame _ _ _ a1 fun b hb o e => hs₅.extBut b o (fun q => hDf (q ▸ hb)) e, by simpa using hl₅, a3.sameBut hs₅ (Ne.symm hDC), by simp; omega,
            fun b o e hn => hs₅.extBut b o (ne_none e hDn) (a7 b o e hn), hJm _ _ _ _ (a5.le fun b o e => hs₅.extBut b o (fun q => ?_) (a4 b o e)) a6⟩
          rw [q, a5 D (.tail _ (.head _))] at e; cases e
      · have hin : i = n := by omega
        subst hin
        refine W.done _ _ _ hst' fun h₂ tk₂ hk₂ => ?_
        have c₂ : Ch wr h' h₂ := fun b o e hn => hk₂ b o hn e
        have cT : Ch (C :: D :: wr ++ X) h' h₂ := c₂.mono fun q hq => List.mem_append_left _ (.tail _ (.tail _ hq))
        exact hRR D C _ h₂ tk₂ m' ys hDn hCn hDC (hns'.at' fun o e => hk₂ C o hCw e) (hacc'.at fun o e => hk₂ _ o hDw e) hlen (fun b o e => of_hideAll _ e) (fun b hb => hideAll_none _ hb) (hJm _ _ _ _ cT.hidden hJ)
          (hch.trans (c₂.mono fun q hq => List.mem_append_right _ hq))
    · refine ⟨h₁, _, _, [], 0, rfl, Nat.zero_le _, rfl, hst₁, hacc, hns₁, Nat.le_refl _, fun b o e _ => old b o e, hJm _ _ _ _ (fun b o e => ?_) hJ0⟩
      have h2 : b ∉ wr ++ X := fun q => by rw [hideAll_none _ q] at e; cases e
      have h3 := of_hideAll _ e
      refine hideAll_get _ (old _ _ h3) fun q => ?_
      rcases List.mem_cons.mp q with q | q
      · exact ne_none h3 hCn q
      · rcases List.mem_cons.mp q with q | q
        · exact ne_none h3 hDn q
        · exact h2 q
  exact codeAny_compStart_list (loop _ rfl) (W.self 0 _ _ _ hst₁ (loop _ rfl))

structure CompPlan (prog : Program) (w : World) (A : Around) (env : Env) (elt target : Expr) (ifs : List Expr) (scope : Scope) (cl : List (Str × Addr)) (s₂ : Shared) (I : Addr) (fp wr : List Addr) (n : Nat) (P : Nat → Value → Prop)
    (StI : Nat → Heap → Prop) (S X : List Addr) (J : Nat → List Value → Heap → Prop) : Prop where
  W : Walks prog w A I fp wr n P StI
  hsz : n ≤ sizeLine
  ht : ∀ v, letOwnedTupleGo target (.ref I) v = pure ()
  hst : StI 0 s₂.heap
  hfp : ∀ b ∈ fp, b < s₂.heap.objs.size
  hS : ∀ b ∈ S, b < s₂.heap.objs.size ∧ b ∉ fp
  hX : ∀ b ∈ X, b < s₂.heap.objs.size
  hJm : ∀ i ys g g', Le g g' → J i ys g → J i ys g'
  hJ0 : J 0 [] (hideAll s₂.heap (wr ++ X))
  turn : ∀ C D i v ys g m s₃ E', s₂.heap.get? C = none → s₂.heap.get? D = none → i < n → P i v → StI (i + 1) s₃.heap → (∃ o, s₃.heap.get? D = some o) → St g C m [] s₃.heap → Off g (C :: D :: wr ++ X) →
        (∀ b o, s₃.heap.get? b = some o → b ∉ (C :: D :: wr ++ X) → g.get? b = some o) → Ch (S ++ wr) s₂.heap s₃.heap → J i ys g →
        wpAny (model prog w) A (assign target (compEnvC scope cl C env) v) (fun _ s₄ =>
          wpAny (model prog w) A (forIn ifs true fun c r => if r = true then do let ok ← isTrue c (compEnvC scope cl C env) (eval c (compEnvC scope cl C env)); pure (ForInStep.yield ok) else pure (ForInStep.yield r)) (fun ok s₅ =>
            if ok = true then wpAny (model prog w) A (eval elt (compEnvC scope cl C env)) (fun y s₆ => TurnEnd (C :: D :: wr ++ X) S C (J (i + 1) (ys ++ [y])) s₃ s₆) E' s₅
            else TurnEnd (C :: D :: wr ++ X) S C (J (i + 1) ys) s₃ s₅) E' s₄) E' s₃

/-- [elt for target in iter if …] as a value -/
theorem comp_val {s : Shared} {elt target iter : Expr} {ifs : List Expr} {scope : Scope} {cl : List (Str × Addr)} {pos : Pos} {Q : Value → Shared → Prop}
    (hclos : closureFor scope env = pure cl) (hcell : ∀ y ∈ scope.names, y.2 ≠ .cell) (hkind : scope.kind = .function) (hnames : ∀ y ∈ scope.names, y.2 = .local → scope.names.lookup y.1 = some .local)
    (h : wpAny (model prog w) A (eval iter env) (fun xv s₁ => wpAny (model prog w) A (pyIter xv) (fun it s₂ => ∃ I fp wr n P StI S X J, it = .ref I ∧ CompPlan prog w A env elt target ifs scope cl s₂ I fp wr n P StI S X J ∧
      (∀ D g h' tk (ys : List Value), s₂.heap.get? D = none → h'.PlainList D ys.toArray → ys.length ≤ n → Le g h' → Off g (D :: wr ++ X) → J n ys g → Ch (S ++ wr) s₂.heap h' → Q (.ref D) { s₂ with heap := h', toks := tk })) E s₁) E s)
    (hs : ∀ x, foldedSetIterable iter env x = pure x := by intro _; rfl) :
    wpAny (model prog w) A (eval (.ListComp elt [⟨target, iter, ifs, 0⟩] scope pos) env) Q E s := by
  rw [eval_ListComp]
  refine wpAny_comprehension_free (use := none) rfl hs hclos hkind hnames (wpAny_mono h (fun xv s₁ h₁ => wpAny_mono h₁ (fun it s₂ h₂ => ?_) fun _ _ e => e) fun _ _ e => e)
  obtain ⟨I, fp, wr, n, P, StI, S, X, J, rfl, ⟨W, hsz, ht, hst, hfp, hS, hX, hJm, hJ0, turn⟩, hQ⟩ := h₂
  refine comp_blockJ (RR := fun acc C => compPost (model prog w) A E none Q acc C) W hsz S X J hcell hkind ht hst hfp hS hX hJm hJ0 turn ?_
  intro D C g h' tk m' ys hD hC hDC hn hl hlen hle hoff hj hch
  refine ⟨m', hn, fun h'' hs'' => hQ D g h'' tk ys hD (hl.at fun o e => hs''.extBut _ o hDC e) hlen (fun b o e => hs''.extBut b o (fun q => ?_) (hle _ _ e)) (fun b hb => hoff b (.tail _ hb)) hj fun b o e hn => hs''.extBut b o (ne_none e hC) (hch b o e hn)⟩
  rw [q, hoff C (.head _)] at e; cases e

/-- x = [elt for target in iter if …] in a function, on one line -/
theorem comp_set {s : Shared} {elt target iter : Expr} {y : Str} {py : Pos} {ifs : List Expr} {scope : Scope} {cl : List (Str × Addr)} {pos spos : Pos} {Q : Flow → Shared → Prop}
    (hsw : swapsWith (.ListComp elt [⟨target, iter, ifs, 0⟩] scope pos) (some (.Name y py)) spos.line env = pure true)
    (hclos : closureFor scope env = pure cl) (hcell : ∀ y ∈ scope.names, y.2 ≠ .cell) (hkind : scope.kind = .function) (hnames : ∀ y ∈ scope.names, y.2 = .local → scope.names.lookup y.1 = some .local)
    (hy : env.kindOf y = some .local) (hek : env.scope.kind = .function)
    (h : wpAny (model prog w) A (eval iter env) (fun xv s₁ => wpAny (model prog w) A (pyIter xv) (fun it s₂ => ∃ I fp wr n P StI S X J m, it = .ref I ∧ CompPlan prog w A env elt target ifs scope cl s₂ I fp wr n P StI S X J ∧
      env.locals ∈ X ∧ env.locals ∉ S ∧ env.locals ∉ wr ∧ s₂.heap.Ns env.locals m ∧
      (∀ D g h' tk (ys : List Value), s₂.heap.get? D = none → h'.PlainList D ys.toArray → ys.length ≤ n → Le g h' → Off g (D :: wr ++ X) → J n ys g → Ch (env.locals :: S ++ wr) s₂.heap h' → h'.Ns env.locals (updN m y (.ref D)) → Q .next { s₂ with heap := h', toks := tk })) E s₁) E s)
    (hs : ∀ x, foldedSetIterable iter env x = pure x := by intro _; rfl) :
    wpAny (model prog w) A (exec (.Assign [.Name y py] (.ListComp elt [⟨target, iter, ifs, 0⟩] scope pos) spos) env) Q E s := by
  rw [exec_Assign_Name_used _ _ _ _ hsw]
  refine wpAny_bind (wpAny_standAt (wpAny_bind ?_))
  show wpAny _ A (do let _ ← comprehension (.ListComp elt [⟨target, iter, ifs, 0⟩] scope pos) scope env _ (newList []) false (eval iter env) (some (assign (.Name y py) env))) _ _ s
  refine wpAny_bind (wpAny_mono (wpAny_comprehension_free (use := some (assign (.Name y py) env)) (Q := fun _ s' => Q .next s') rfl hs hclos hkind hnames
    (wpAny_mono h (fun xv s₁ h₁ => wpAny_mono h₁ (fun it s₂ h₂ => ?_) fun _ _ e => e) fun _ _ e => e)) (fun _ s' hq => wpAny_pure (wpAny_pure hq)) fun _ _ e => e)
  obtain ⟨I, fp, wr, n, P, StI, S, X, J, m, rfl, ⟨W, hsz, ht, hst, hfp, hS, hX, hJm, hJ0, turn⟩, hLX, hLS, hLw, hns, hQ⟩ := h₂
  refine comp_blockJ (RR := fun acc C => compPost (model prog w) A E (some (assign (.Name y py) env)) (fun _ s' => Q .next s') acc C) W hsz S X J hcell hkind ht hst hfp hS hX hJm hJ0 turn ?_
  intro D C g h' tk m' ys hD hC hDC hnC hl hlen hle hoff hj hch
  obtain ⟨oL, _, _, hoL, _⟩ := id hns
  have hLC : env.locals ≠ C := ne_none hoL hC
  have hLD : env.locals ≠ D := ne_none hoL hD
  show wpAny _ A (assign (.Name y py) env (.ref D)) _ _ _
  refine wpAny_assign_Name (wpAny_storeName_local hy (hns.at' fun o e => hch _ o e fun q => (List.mem_append.mp q).elim hLS hLw) (fun h₂ hn₂ hs₂ => ?_) (by rw [hek]; rfl))
  refine ⟨m', hnC.sameBut hs₂ (Ne.symm hLC), fun h₃ hs₃ => ?_⟩
  refine hQ D g h₃ _ ys hD ((hl.at fun o e => hs₂.extBut _ o (Ne.symm hLD) e).at fun o e => hs₃.extBut _ o hDC e) hlen (fun b o e => hs₃.extBut b o (fun q => ?_) (hs₂.extBut b o (fun q => ?_) (hle _ _ e))) (fun b hb => hoff b (.tail _ hb)) hj
    (fun b o e hn => hs₃.extBut b o (ne_none e hC) (hs₂.extBut b o (fun q => hn (q ▸ .head _)) (hch b o e fun q => hn (.tail _ q)))) (hn₂.sameBut hs₃ hLC)
  · rw [q, hoff C (.head _)] at e; cases e
  · rw [q, hoff env.locals (.tail _ (.tail _ (List.mem_append_right _ hLX)))] at e; cases e
end
end Mine

set_option Elab.async false
set_option maxRecDepth 100000
set_option maxHeartbeats 8000000
set_option linter.unusedVariables false
open PySem PySem.W PyProof.Rows PySem.Calls
namespace Mine

structure StNow (h : Heap) (st l : Addr) : Prop where
  now : ∃ (i x : Int) (t₁ t₂ : Tok), h.IsList st #[.ref l, .int i t₁, .int x t₂] ∧ 0 ≤ i ∧ i ≤ 63 ∧ 0 ≤ x ∧ x < 2147483647
  its : ∃ vs ns, h.IsList l vs.toArray ∧ IntsAre vs ns ∧ ns.length ≤ 63
  ne : st ≠ l
theorem StOk.toNow {w : World} {h : Heap} {st l : Addr} (x : StOk w h st l) : StNow h st l := ⟨x.now, x.its, x.ne⟩
theorem StNow.ok {w : World} {g h : Heap} {st l : Addr} (x : StNow h st l) (B : Base w g) (k : Le g h) (n : g.get? st = none) : StOk w h st l := ⟨⟨g, B, k, n⟩, x.now, x.its, x.ne⟩
theorem StNow.ch {T : List Addr} {h h' : Heap} {st l : Addr} (x : StNow h st l) (k : Ch T h h') (n₁ : st ∉ T) (n₂ : l ∉ T) : StNow h' st l := by
  obtain ⟨⟨i, y, t₁, t₂, ⟨o, ho, r⟩, q⟩, ⟨vs, ns, ⟨o', ho', r'⟩, q'⟩, hne⟩ := x
  exact ⟨⟨i, y, t₁, t₂, ⟨o, k _ _ ho n₁, r⟩, q⟩, ⟨vs, ns, ⟨o', k _ _ ho' n₂, r'⟩, q'⟩, hne⟩
theorem StNow.le {h h' : Heap} {st l : Addr} (x : StNow h st l) (k : Le h h') : StNow h' st l := x.ch (T := []) (fun b o e _ => k b o e) (fun z => nomatch z) (fun z => nomatch z)
theorem StNow.at1 {h : Heap} {st l : Addr} (x : StNow h st l) : ∃ o, h.get? st = some o := let ⟨_, _, _, _, ⟨o, ho, _⟩, _⟩ := x.now; ⟨o, ho⟩
theorem StNow.at2 {h : Heap} {st l : Addr} (x : StNow h st l) : ∃ o, h.get? l = some o := let ⟨_, _, ⟨o, ho, _⟩, _⟩ := x.its; ⟨o, ho⟩
theorem StNow.hide {h g : Heap} {T : List Addr} {st l : Addr} (x : StNow h st l) (n₁ : st ∉ T) (n₂ : l ∉ T) : StNow (hideAll h T) st l := by
  obtain ⟨⟨i, y, t₁, t₂, ⟨o, ho, r⟩, q⟩, ⟨vs, ns, ⟨o', ho', r'⟩, q'⟩, hne⟩ := x
  exact ⟨⟨i, y, t₁, t₂, ⟨o, hideAll_get _ ho n₁, r⟩, q⟩, ⟨vs, ns, ⟨o', hideAll_get _ ho' n₂, r'⟩, q'⟩, hne⟩
theorem Off.ne {g : Heap} {T : List Addr} {a : Addr} {o : Obj} (x : Off g T) (e : g.get? a = some o) : a ∉ T := fun q => by rw [x a q] at e; cases e
theorem NewR.ch {w : World} {im : Bool} {h₀ h h' : Heap} {a : Addr} {rs : Rw} {T : List Addr} (N : NewR w im h₀ h a rs) (k : Ch T h h') (hT : ∀ b ∈ T, ∃ x, h₀.get? b = some x) : NewR w im h₀ h' a rs :=
  let ⟨g, k₀, n, R⟩ := N; ⟨g, fun b o e => k _ _ (k₀ _ _ e) fun q => (let ⟨x, hx⟩ := hT b q; by rw [n _ _ hx] at e; cases e), n, R⟩

section
variable {w : World} {A : Around} {E : Value → Shared → Prop} {s : Shared}

theorem dictSet_rows {prog : Program} {d : Addr} {c : Value} {dd : Option Addr} {sl : Array (Option Value)} {es : Array DictEntry} {ep : Nat} {rs : Rw} {k : Str} {t : Tok} {v : Int} {tv : Tok} {Q : Unit → Shared → Prop}
    (hd : s.heap.get? d = some ⟨c, dd, .dict es ep, sl⟩) (R : RowsIn w es rs) (hk : OkR (k, v))
    (h : ∀ h' es' ep' t', h'.get? d = some ⟨c, dd, .dict es' ep', sl⟩ → RowsIn w es' (put rs k v) → Heap.SameBut d s.heap h' → Q () { s with heap := h', toks := t' }) :
    wpAny (model prog w) A (dictSet d (.str k t) (.int v tv)) Q E s := by
  unfold dictSet
  refine wpAny_holding (wpAny_bind (wpAny_pyHash_str ?_))
  exact dictSetHashed_rows (s := { s with toks := s.toks + 1 }) hd R hk fun h' es' ep' a b c => h h' es' ep' _ a b c

/-- a call of one of the text's own defs that keeps cells -/
theorem callFnC {n : Nat} {a : Addr} {fd : FuncData} {body : List Stmt} {vals : List Value} {binds : List (Str × Value)} {R : Result → Shared → Prop} (O : Ok A (n + 1)) (B : Base w s.heap)
    (ho : List.lookup a (KK w) = some ⟨.type "function", none, .func fd, #[]⟩) (hcode : codeIn (KK w) fd.code fd.qualname = true) (hbody : fd.body = .stmts body) (hbind : bindArgs fd ⟨vals, []⟩ = pure binds) (hclo : fd.closure = [])
    (hkind : ∀ x ∈ binds, fd.scope.names.lookup x.1 = some .local ∨ (fd.scope.names.lookup x.1 = some .cell ∧ ((cellsFrom (s.heap.objs.size + 1) fd.scope.names []).lookup x.1).isSome = true))
    (hsc : (fd.scope.isCoroutine, fd.scope.isGenerator, fd.scope.kind, fd.globals, fd.builtins) = (false, false, .function, mainGlobals, builtinsNs))
    (h : ∀ env L h₀ tk, env = callEnvC fd L a → EF env L → s.heap.objs.size = L → Ok (A.deeper env) n →
      InCallC s L (bindL env.kindOf binds fun _ => none) env.cells (bindC env.kindOf binds fun _ => none) { s with heap := h₀, toks := tk } →
      wpAny (model Pg w) (A.deeper env) (execs body env) (fun f s' => R (.ok (.ret (match f with | .ret v => v | _ => .none))) s') (fun _ _ => False) { s with heap := h₀, toks := tk }) :
    codeAny (model Pg w) A (.call (.ref a) ⟨vals, []⟩) R s := by
  obtain ⟨hco, hgen, hk, hg, hb⟩ : fd.scope.isCoroutine = false ∧ fd.scope.isGenerator = false ∧ fd.scope.kind = .function ∧ fd.globals = mainGlobals ∧ fd.builtins = builtinsNs := by
    simp only [Prod.mk.injEq] at hsc; exact hsc
  refine codeAny_call_cells O.room (B.k _ _ ho) rfl B.lim (codeRec_of B.k hcode) hbody hbind hclo hkind (fun s₁ x => ?_) hco hgen hk
  obtain ⟨h₀, tk, rfl⟩ := x.toInCall.same
  refine wpAny_mono (h (callEnvC fd s.heap.objs.size a) s.heap.objs.size h₀ tk rfl ⟨hk, rfl, hg, hb⟩ rfl (O.deeper _) x) (fun _ _ q => q) fun _ _ q => q.elim
end

section
variable {prog : Program} {w : World} {A : Around} {E : Value → Shared → Prop} {env : Env}

theorem comp_blockD {kx vx iter target : Expr} {scope : Scope} {cl : List (Str × Addr)} {pos : Pos} {s₂ : Shared} {I : Addr} {fp wr : List Addr} {n : Nat} {P : Nat → Value → Prop}
    {StI : Nat → Heap → Prop} (W : Walks prog w A I fp wr n P StI) (S X : List Addr) (J : Nat → Heap → Prop) {RR : Value → Addr → Result → Shared → Prop} (hsys : s₂.heap.objs.size ≠ sysModules)
    (hcell : ∀ y ∈ scope.names, y.2 ≠ .cell) (hkind : scope.kind = .function) (ht : ∀ v, letOwnedTupleGo target (.ref I) v = pure ())
    (hst : StI 0 s₂.heap) (hfp : ∀ b ∈ fp, b < s₂.heap.objs.size) (hS : ∀ b ∈ S, b < s₂.heap.objs.size ∧ b ∉ fp) (hX : ∀ b ∈ X, b < s₂.heap.objs.size)
    (hJm : ∀ i g g', Le g g' → J i g → J i g') (hJ0 : J 0 (hideAll s₂.heap (wr ++ X)))
    (turn : ∀ C D i v g m s₃ E', s₂.heap.get? C = none → s₂.heap.get? D = none → i < n → P i v → St g C m [] s₃.heap → Off g (C :: D :: wr ++ X) →
      (∀ b o, s₃.heap.get? b = some o → b ∉ (C :: D :: wr ++ X) → g.get? b = some o) → Ch (S ++ wr) s₂.heap s₃.heap → J i g →
      wpAny (model prog w) A (assign target (compEnvC scope cl C env) v) (fun _ s₄ =>
        wpAny (model prog w) A (eval kx (compEnvC scope cl C env)) (fun kv s₅ => wpAny (model prog w) A (eval vx (compEnvC scope cl C env)) (fun vv s₆ =>
          (∃ k t v tv, kv = .str k t ∧ vv = .int v tv ∧ OkR (k, v)) ∧ TurnEnd (C :: D :: wr ++ X) S C (J (i + 1)) s₃ s₆) E' s₅) E' s₄) E' s₃)
    (hRR : ∀ D C g h' tk m' rs es ep, s₂.heap.objs.size = D → s₂.heap.get? C = none → D ≠ C → h'.Ns C m' → h'.get? D = some ⟨.type "dict", none, .dict es ep, #[]⟩ → RowsIn w es rs → Le g h' → Off g (C :: D :: wr ++ X) → J n g →
      Ch (S ++ wr) s₂.heap h' → RR (.ref D) C (.ok .next) { s₂ with heap := h', toks := tk }) :
    wpAny (model prog w) A newDict (fun acc s₃ => wpAny (model prog w) A (newFunctionEnv scope env.globals cl [] env.qual none .none (some env)) (fun cenv s₄ =>
      codeAny (model prog w) A (.compStart (.DictComp kx vx [⟨target, iter, [], 0⟩] scope pos) 0 (.ref I) acc { cenv with scope := relabel scope env }) (RR acc cenv.locals) s₄) E s₃) E s₂ := by
  refine wpAny_newObj_type (wpAny_newFunctionEnv hcell (by intro y hy; simp at hy) (fun h₁ hns₁ hsb₁ => ?_) hkind)
  dsimp only at hns₁ hsb₁ ⊢
  have hnew : (s₂.heap.push { cls := .type "dict", dict := none, data := .dict #[] }).get? s₂.heap.objs.size = some ⟨.type "dict", none, .dict #[] 0, #[]⟩ := Heap.get?_push_size _ rfl
  generalize hH2 : s₂.heap.push { cls := .type "dict", dict := none, data := .dict #[] } = H2 at hns₁ hsb₁ hnew ⊢
  have hC : H2.objs.size = s₂.heap.objs.size + 1 := by rw [← hH2, Heap.size_push]
  have hDC : s₂.heap.objs.size ≠ H2.objs.size := by rw [hC]; exact Nat.ne_of_lt (Nat.lt_succ_self _)
  have below : ∀ b, b < s₂.heap.objs.size → b ≠ H2.objs.size ∧ b ≠ s₂.heap.objs.size := fun b hb => ⟨by rw [hC]; exact Nat.ne_of_lt (Nat.lt_succ_of_lt hb), Nat.ne_of_lt hb⟩
  have old : ∀ b o, s₂.heap.get? b = some o → h₁.get? b = some o := fun b o e => hsb₁.extBut b o (below b (Heap.lt_size e)).1 (Heap.get?_push_of_some _ (hH2 ▸ Heap.get?_push_of_some _ e))
  have hacc : h₁.get? s₂.heap.objs.size = some ⟨.type "dict", none, .dict #[] 0, #[]⟩ := hsb₁.extBut _ _ hDC (Heap.get?_push_of_some _ hnew)
  have hDn : s₂.heap.get? s₂.heap.objs.size = none := get_none_ge (Nat.le_refl _)
  have hCn : s₂.heap.get? H2.objs.size = none := get_none_ge (by rw [hC]; exact Nat.le_succ _)
  have hst₁ : StI 0 h₁ := W.frame _ _ _ hst fun b _ o e => old b o e
  generalize hDd : s₂.heap.objs.size = D at *
  generalize hCc : H2.objs.size = C at *
  have hDf : D ∉ fp := fun hm => Nat.lt_irrefl _ (hfp _ hm)
  have hCf : C ∉ fp := fun hm => (below _ (hfp _ hm)).1 rfl
  have hDS : D ∉ S := fun hm => Nat.lt_irrefl _ (hS _ hm).1
  have hCS : C ∉ S := fun hm => (below _ (hS _ hm).1).1 rfl
  have hDw : D ∉ wr := fun h => hDf (W.sub _ h)
  have hCw : C ∉ wr := fun h => hCf (W.sub _ h)
  have loop : ∀ s₃ : Shared, s₃ = { s₂ with heap := h₁, toks := s₂.toks + ([] : List (Str × Value)).length } →
      codeAny (model prog w) A (.compLoop (.DictComp kx vx [⟨target, iter, [], 0⟩] scope pos) 0 (.ref I) (.ref D) (compEnvC scope cl C env)) (RR (.ref D) C) s₃ := by
    rintro s₃ rfl
    refine codeAny_compLoop_testsD (fun k s' => ∃ h' tk m' rs es ep i, s' = { s₂ with heap := h', toks := tk } ∧ i ≤ n ∧ k = n + 1 - i ∧ StI i h' ∧ h'.get? D = some ⟨.type "dict", none, .dict es ep, #[]⟩ ∧ RowsIn w es rs ∧ h'.Ns C m' ∧
      Ch (S ++ wr) s₂.heap h' ∧ J i (hideAll h' (C :: D :: wr ++ X))) ?_ (n + 1) ?_ ht
    · rintro k s' ⟨h', tk, m', rs, es, ep, i, rfl, hi, rfl, hst', hacc', hR, hns', hch, hJ⟩
      by_cases hlt : i < n
      · refine W.item i _ _ _ hlt hst' fun v h₂ tk₂ hPv hst₂ hk₂ => ?_
        dsimp only
        have c₂ : Ch wr h' h₂ := fun b o e hn => hk₂ b o hn e
        have hns₂ := hns'.at' fun o e => hk₂ C o hCw e
        have cT : Ch (C :: D :: wr ++ X) h' h₂ := c₂.mono fun q hq => List.mem_append_left _ (.tail _ (.tail _ hq))
        refine wpAny_mono (turn C D i v (hideAll h₂ (C :: D :: wr ++ X)) m' { s₂ with heap := h₂, toks := tk₂ } _ hCn hDn hlt hPv ⟨hns₂, fun b o e => of_hideAll _ e, hideAll_none _ (.head _), fun p hp => nomatch hp⟩
          (fun b hb => hideAll_none _ hb) (fun b o e hn => hideAll_get _ e hn) (hch.trans (c₂.mono fun q hq => List.mem_append_right _ hq)) (hJm _ _ _ cT.hidden hJ)) (fun _ s₄ h₄ => wpAny_tests_nil ?_) fun _ _ e => e
        rw [if_pos rfl]
        refine wpAny_mono h₄ (fun kv s₅ h₅ => wpAny_mono h₅ (fun vv s₆ h₆ => ?_) fun _ _ e => e) fun _ _ e => e
        obtain ⟨⟨k, t, v', tv, rfl, rfl, hok⟩, g', m₁, h₁, tk₁, rfl, hc, hns, hle, hoff, hj⟩ := h₆
        have hD₁ : h₁.get? D = some ⟨.type "dict", none, .dict es ep, #[]⟩ := hc D _ (hk₂ D _ hDw hacc') fun q => by
          rcases List.mem_cons.mp q with q | q
          · exact hDC q
          · exact hDS q
        refine dictSet_rows (s := { s₂ with heap := h₁, toks := tk₁ }) hD₁ hR hok fun h₅ es' ep' t' hD₅ R₅ hs₅ => ?_
        refine ⟨n + 1 - (i + 1), by omega, h₅, t', m₁, _, es', ep', i + 1, rfl, hlt, rfl, W.frame _ _ _ hst₂ fun b hb o e => hs₅.extBut b o (fun q => hDf (q ▸ hb)) (hc b o e fun q => ?_), hD₅, R₅, hns.sameBut hs₅ (Ne.symm hDC), fun b o e hn => ?_,
          hJm _ _ _ (hoff.le fun b o e => hs₅.extBut b o (fun q => ?_) (hle b o e)) hj⟩
        · rcases List.mem_cons.mp q with q | q
          · exact hCf (q ▸ hb)
          · exact (hS _ q).2 hb
        · refine hs₅.extBut b o (ne_none e hDn) (hc b o (hk₂ b o (fun q => hn (List.mem_append_right _ q)) (hch b o e hn)) fun q => ?_)
          rcases List.mem_cons.mp q with q | q
          · exact ne_none e hCn q
          · exact hn (List.mem_append_left _ q)
        · rw [q, hoff D (.tail _ (.head _))] at e; cases e
      · have hin : i = n := by omega
        subst hin
        refine W.done _ _ _ hst' fun h₂ tk₂ hk₂ => ?_
        have c₂ : Ch wr h' h₂ := fun b o e hn => hk₂ b o hn e
        have cT : Ch (C :: D :: wr ++ X) h' h₂ := c₂.mono fun q hq => List.mem_append_left _ (.tail _ (.tail _ hq))
        exact hRR D C _ h₂ tk₂ m' rs es ep rfl hCn hDC (hns'.at' fun o e => hk₂ C o hCw e) (hk₂ D _ hDw hacc') hR (fun b o e => of_hideAll _ e) (fun b hb => hideAll_none _ hb) (hJm _ _ _ cT.hidden hJ)
          (hch.trans (c₂.mono fun q hq => List.mem_append_right _ hq))
    · refine ⟨h₁, _, _, [], #[], 0, 0, rfl, Nat.zero_le _, rfl, hst₁, hacc, .nil w, hns₁, fun b o e _ => old b o e, hJm _ _ _ (fun b o e => ?_) hJ0⟩
      have h2 : b ∉ wr ++ X := fun q => by rw [hideAll_none _ q] at e; cases e
      have h3 := of_hideAll _ e
      refine hideAll_get _ (old _ _ h3) fun q => ?_
      rcases List.mem_cons.mp q with q | q
      · exact ne_none h3 hCn q
      · rcases List.mem_cons.mp q with q | q
        · exact ne_none h3 hDn q
        · exact h2 q
  exact codeAny_compStart_dict (loop _ rfl) (W.self 0 _ _ _ hst₁ (loop _ rfl))
end
end Mine

set_option Elab.async false
set_option maxRecDepth 100000
set_option maxHeartbeats 8000000
set_option linter.unusedVariables false
open PySem PySem.W PyProof.Rows PySem.Calls
namespace Mine

local macro_rules | `(tactic| walk_at "m_s") => `(tactic| first
  | with_reducible refine wpAny_execs_cons ?_
  | with_reducible refine wpAny_execs_nil ?_
  | with_reducible refine wpAny_If ?_
  | with_reducible refine wpAny_Return_some ?_
  | ((with_reducible refine wpAny_Assign_Name ?_ ?hs); (case hs => with_unfolding_all rfl))
  | ((with_reducible refine wpAny_Assign_Subscript ?_ ?hs); (case hs => with_unfolding_all rfl))
  | with_reducible refine wpAny_BinOp ?_
  | ((with_reducible refine wpAny_Compare1 ?_ ?hm); (case hm => with_unfolding_all rfl))
  | ((with_reducible refine wpAny_isTrue_Compare1 ?_ ?hm); (case hm => with_unfolding_all rfl))
  | with_reducible refine wpAny_Constant_int ?_
  | with_reducible refine Constant_str ?_
  | with_reducible refine Constant_bool ?_
  | with_reducible refine Constant_none ?_
  | with_reducible refine Subscript_ ?_
  | with_reducible refine wpAny_truthy_bool ?_
  | ((with_reducible refine' nL (by assumption) (by assumption) (by assumption) ?hv ?_ ?hd); (case hd => decide); (case hv => first | assumption | with_unfolding_all rfl)))

/-! ## _law_plain -/
theorem code161 (P : Params) : codeIn (hd.heap_39 P) (fdAt (hd.heap_39 P) 161).code (fdAt (hd.heap_39 P) 161).qualname = true := by kernel_rfl
theorem obj161 (P : Params) : List.lookup 161 (hd.heap_39 P) = some ⟨.type "function", none, .func (fdAt (hd.heap_39 P) 161), #[]⟩ := by kernel_rfl
theorem bind161 (P : Params) (v1 : Value) : bindArgs (fdAt (hd.heap_39 P) 161) ⟨[v1], []⟩ = pure [(Str.ofString "state", v1)] := by kernel_rfl
theorem clo161 (P : Params) : (fdAt (hd.heap_39 P) 161).closure = [] := by kernel_rfl
theorem look161 (P : Params) (L : Nat) : (fdAt (hd.heap_39 P) 161).scope.names.lookup (Str.ofString "state") = some .cell ∧ ((cellsFrom L (fdAt (hd.heap_39 P) 161).scope.names []).lookup (Str.ofString "state")).isSome = true := by constructor <;> kernel_rfl
theorem scope161 (P : Params) : ((fdAt (hd.heap_39 P) 161).scope.isCoroutine, (fdAt (hd.heap_39 P) 161).scope.isGenerator, (fdAt (hd.heap_39 P) 161).scope.kind, (fdAt (hd.heap_39 P) 161).globals, (fdAt (hd.heap_39 P) 161).builtins) = (false, false, .function, mainGlobals, builtinsNs) := by kernel_rfl
theorem gName (P : Params) : nsIn (hd.heap_39 P) mainGlobals (Str.ofString "_law_next") = some (some (.ref 156)) ∧ nsIn (hd.heap_39 P) mainGlobals (Str.ofString "_law_plain") = some (some (.ref 161)) ∧
    nsIn (hd.heap_39 P) mainGlobals (Str.ofString "_law_other") = some (some (.ref 168)) ∧ nsIn (hd.heap_39 P) mainGlobals (Str.ofString "_law_refuses") = some (some (.ref 175)) ∧ nsIn (hd.heap_39 P) mainGlobals (Str.ofString "_law_shown") = some (some (.ref 182)) ∧
    nsIn (hd.heap_39 P) mainGlobals (Str.ofString "immutabledict") = some (some (.ref 145)) ∧ nsIn (hd.heap_39 P) mainGlobals (Str.ofString "_immutable_fn") = some (some (.ref 21)) := by refine ⟨?_, ?_, ?_, ?_, ?_, ?_, ?_⟩ <;> kernel_rfl
theorem keepF (P : Params) : ([156, 161, 168, 175, 182, 145, 21, 114].all fun a => keepIn (hd.heap_39 P) (.ref a)) = true := by kernel_rfl
theorem keepF_of {w : World} (a : Nat) (h : a ∈ [156, 161, 168, 175, 182, 145, 21, 114]) : keepIn (KK w) (.ref a) = true := List.all_eq_true.mp (keepF w.params) a h

def key4 (r : Int) : Str := ⟨#[(Str.ofString "abce").cps.getD r.toNat 0]⟩
theorem key4_ok (r : Int) (h0 : 0 ≤ r) (h1 : r < 4) : key4 r ∈ keysL ∧ (seqIndex? r (Str.ofString "abce").length).bind ((Str.ofString "abce").cps[·]?) = some ((Str.ofString "abce").cps.getD r.toNat 0) := by
  have : r = 0 ∨ r = 1 ∨ r = 2 ∨ r = 3 := by omega
  rcases this with rfl | rfl | rfl | rfl <;> exact ⟨by decide +kernel, by decide +kernel⟩

section
variable {w : World} {A : Around} {E : Value → Shared → Prop} {s : Shared}

theorem sL' {M : Model} {env : Env} {g : Heap} {L : Addr} {m : Str → Option Value} {mv : List (Addr × Obj)} {x : Str} {v : Value} {Q : Unit → Shared → Prop} (X : EF env L) (S : St g L m mv s.heap) (hx : env.kindOf x = some .local)
    (h : ∀ h', St g L (updN m x v) mv h' → Ch [L] s.heap h' → Q () { s with heap := h', toks := s.toks + 1 }) : wpAny M A (storeName env x v) Q E s :=
  wpAny_storeName_local hx (X.loc ▸ S.ns) (fun h' hn hs => h h' (S.set (X.loc ▸ hn) (X.loc ▸ hs)) (Ch.of_same (X.loc ▸ hs))) (by rw [X.kind]; rfl)

theorem cons_to {b : Addr} {x : Addr} {S : List Addr} (h : b ∉ x :: S) : b ∉ [x] ∧ b ∉ S := ⟨fun q => h ((List.mem_singleton.mp q) ▸ .head _), fun q => h (.tail _ q)⟩
/-- a turn that changes only C and S -/
theorem TurnEnd.of {T S : List Addr} {C : Addr} {P : Heap → Prop} {s s' : Shared} {g' h' : Heap} {m' : Str → Option Value} {tk : Nat} (e : s' = { s with heap := h', toks := tk }) (hc : Ch (C :: S) s.heap h') (hns : h'.Ns C m') (hp : P (hideAll h' T)) : TurnEnd T S C P s s' :=
  ⟨_, m', h', tk, e, hc, hns, fun b o q => of_hideAll _ q, fun b hb => hideAll_none _ hb, hp⟩

/-- _law_next(state, many) where both are told -/
theorem eval_next {n : Nat} {env : Env} {st l : Addr} {many : Int} {xn xs : Str} {p1 p2 p3 pos : Pos} {k : Nat} {Q : Value → Shared → Prop} (O : Ok A (n + 1)) (X : StOk w s.heap st l)
    (hm : 0 < many) (hf : ∀ Q', Q' (.ref 156) s → wpAny (model Pg w) A (eval (.Name xn p1) env) Q' E s) {L : Addr} (EE : EF env L) (hst : ∀ Q', Q' (.ref st) s → wpAny (model Pg w) A (eval (.Name xs p2) env) Q' E s)
    (h : ∀ (r : Int) tk h' t', 0 ≤ r → r < many → StOk w h' st l → Ch [st] s.heap h' → Q (.int r tk) { s with heap := h', toks := t' }) :
    wpAny (model Pg w) A (eval (.Call (.Name xn p1) [.Name xs p2, .Constant (.int many) k p3] [] pos) env) Q E s := by
  refine Call_Name2 (hf _ (cwK2 (w := w) (keepF_of 156 (by decide)) (hst _ ?_))) rfl
  refine wpAny_Constant_int ⟨X.b, ?_⟩
  refine wpAny_call (next_spec O (StOk.le X fun _ _ e => e) hm fun r tk h' t' a b c d => h r tk h' t' a b c d)

theorem plain_spec {n : Nat} {st l : Addr} {R : Result → Shared → Prop} (O : Ok A (n + 3)) (X : StOk w s.heap st l)
    (h : ∀ d rs h' t', NewR w false s.heap h' d rs → StOk w h' st l → Ch [st] s.heap h' → R (.ok (.ret (.ref d))) { s with heap := h', toks := t' }) :
    codeAny (model Pg w) A (.call (.ref 161) ⟨[.ref st], []⟩) R s := by
  refine callFnC O X.b (obj161 w.params) (code161 w.params) rfl (bind161 w.params (.ref st)) (clo161 w.params) (fun x hx => ?_) (scope161 w.params) ?_
  · rw [List.mem_singleton.mp hx]; exact .inr (look161 w.params _)
  intro env L h₀ tk he EE hL O' x
  have k1 : env.kindOf (Str.ofString "state") = some .cell := by subst he; rfl
  have k2 : env.kindOf (Str.ofString "range") = some .globalImplicit := by subst he; rfl
  have k3 : env.kindOf (Str.ofString "_law_next") = some .globalImplicit := by subst he; rfl
  have kc : env.cells.lookup (Str.ofString "state") = some (L + 1) := by subst he; rfl
  have hcell : h₀.IsCell (L + 1) (some (.ref st)) := by
    have := x.cell (Str.ofString "state") (L + 1) kc
    have e : bindC env.kindOf [(Str.ofString "state", Value.ref st)] (fun _ => none) (Str.ofString "state") = some (.ref st) := by subst he; rfl
    rw [e] at this; exact this
  have kk : Le s.heap h₀ := x.toInCall.keep
  have X₀ := X.le kk
  obtain ⟨ost, host⟩ := X.toNow.at1
  obtain ⟨ol, hol⟩ := X.toNow.at2
  have cne : L + 1 ≠ st := Nat.ne_of_gt (Nat.lt_succ_of_lt (hL ▸ Heap.lt_size host))
  refine wpAny_execs_cons (wpAny_Return_some ?_)
  rw [arm_eval_DictComp]
  refine wpAny_comprehension_free (use := none) (cl := [(Str.ofString "state", L + 1)]) rfl (by intro _; rfl) (by subst he; rfl) rfl (by decide +kernel) ?_
  refine Call_Name1 (nB EE X₀.b k2 (notMine_of "range" (by decide)) boots.2.2.1 (by decide) (cwT1 ?_)) rfl
  refine eval_next (O'.mono (m := n + 1) (by omega)) X₀ (by decide) (fun Q' q => nK EE X₀.b k3 (gName w.params).1 q (by decide)) EE (fun Q' q => nC EE k1 kc hcell q (by decide)) fun r t₁ h₁ tk₁ r0 r1 X₁ c₁ => ?_
  have hcell₁ : h₁.IsCell (L + 1) (some (.ref st)) := let ⟨o, ho, r⟩ := hcell; ⟨o, c₁ _ _ ho (by simpa using cne), r⟩
  refine call_range_1 ?_
  refine wpAny_pyIter_range (IsRange.new ..) (small_one (by decide) (by decide) (by omega) (by omega)) ?_
  dsimp only
  generalize hh₂ : h₁.push { cls := .type "range", data := .fields #[.int 0 tk₁, .int r t₁, .int 1 (tk₁ + 1)] } = h₂
  have k₂ : Le h₁ h₂ := fun b o e => by rw [← hh₂]; exact Heap.get?_push_of_some _ e
  have X₂ := X₁.le k₂
  have hit : (h₂.push { cls := .type "range_iterator", data := .fields #[rawInt 0, rawInt (Builtin.Range.rangeSize 0 r 1), rawInt 1] }).get? h₂.objs.size = some { cls := .type "range_iterator", dict := none, data := .fields #[rawInt 0, rawInt (Builtin.Range.rangeSize 0 r 1), rawInt 1], slots := #[] } := Heap.get?_push_size _ rfl
  generalize hh₃ : h₂.push { cls := .type "range_iterator", data := .fields #[rawInt 0, rawInt (Builtin.Range.rangeSize 0 r 1), rawInt 1] } = h₃ at hit ⊢
  have k₃ : Le h₂ h₃ := fun b o e => by rw [← hh₃]; exact Heap.get?_push_of_some _ e
  have hIs : h₂.objs.size < h₃.objs.size := by rw [← hh₃, Heap.size_push]; exact Nat.lt_succ_self _
  have hIn : h₂.get? h₂.objs.size = none := get_none_ge (Nat.le_refl _)
  have hsys : h₃.objs.size ≠ 1 := Nat.ne_of_gt (Nat.lt_trans (by decide : 1 < 145) (X₂.le k₃).b.size)
  generalize h₂.objs.size = I at hit hIs hIn ⊢
  obtain ⟨⟨H₀, BH, kH, nH⟩, _⟩ := id X₂
  have kg : Le h₂ (hideAll h₃ [I]) := fun b o e => hideAll_get _ (k₃ _ _ e) fun q => ne_none e hIn (List.mem_singleton.mp q)
  have hst₃ := k₃ _ _ (k₂ _ _ (X₁.toNow.at1.choose_spec))
  have hstI : st ≠ I := ne_none (k₂ _ _ (X₁.toNow.at1.choose_spec)) hIn
  have hsz : Builtin.Range.rangeSize 0 r 1 = (r.toNat : Int) := by rw [rangeSize_nat]; omega
  refine comp_blockD (RR := fun acc C => compPost (model Pg w) _ _ none _ acc C) (n := r.toNat) (Walks.range O'.handled I 0 1 r.toNat) [st] [] (fun i g => Le H₀ g ∧ StNow g st l ∧ g.IsCell (L + 1) (some (.ref st))) ?_ (by decide) rfl (by intro _; rfl)
    ?_ ?_ ?_ ?_ ?_ ?_ ?_ ?_
  · exact hsys
  · show h₃.get? I = _
    rw [hit, hsz]; simp
  · intro b hb; rw [List.mem_singleton.mp hb]; exact hIs
  · intro b hb; rw [List.mem_singleton.mp hb]; exact ⟨Heap.lt_size hst₃, by simpa using hstI⟩
  · exact fun b hb => nomatch hb
  · exact fun i g g' k ⟨a, b, c⟩ => ⟨fun b o e => k _ _ (a _ _ e), b.le k, c.keeps k⟩
  · exact ⟨fun b o e => kg _ _ (kH _ _ e), X₂.toNow.le kg, (hcell₁.keeps k₂).keeps kg⟩
  · intro C D i v g m s₃ E' hC hD hi hP S₃ ho hr hc ⟨j1, j2, j3⟩
    generalize hce : compEnvC _ _ _ _ = cenv at *
    have EC : EF cenv C := by subst hce; exact ⟨rfl, rfl, EE.glob, EE.blt⟩
    have c1 : cenv.kindOf (Str.ofString "state") = some .cell := by subst hce; subst he; rfl
    have c2 : cenv.kindOf (Str.ofString "_law_next") = some .globalImplicit := by subst hce; rfl
    have c3 : cenv.kindOf (Str.ofString "_") = some .local := by subst hce; rfl
    have cc : cenv.cells.lookup (Str.ofString "state") = some (L + 1) := by subst hce; rfl
    clear hce
    refine wpAny_assign_Name (sL' EC S₃ c3 fun h₄ S₄ cs => ?_)
    have j2' := j2.le S₄.keep
    have XX : StOk w h₄ st l := j2'.ok BH (fun b o e => S₄.keep _ _ (j1 _ _ e)) nH
    have cel := j3.keeps S₄.keep
    refine Subscript_ (Constant_str ?_)
    refine eval_next (s := { s₃ with heap := h₄, toks := s₃.toks + 1 + 1 }) (O'.mono (m := n + 1) (by omega)) XX (by decide) (fun Q' q => nK EC XX.b c2 (gName w.params).1 q (by decide)) EC (fun Q' q => nC EC c1 cc cel q (by decide)) fun r₂ t₂ h₅ tk₅ a0 a1 X₅ c₅ => ?_
    refine tail_any (typeIs_str _ _ _) F.slot_str_getitem.lookup (P.getItem_str (c := (Str.ofString "abce").cps.getD r₂.toNat 0) (by simp; omega) (key4_ok r₂ a0 a1).2 ?_) (by with_unfolding_all rfl)
    refine eval_next (s := { s₃ with heap := h₅, toks := tk₅ + 1 }) (O'.mono (m := n + 1) (by omega)) X₅ (by decide) (fun Q' q => nK EC X₅.b c2 (gName w.params).1 q (by decide)) EC (fun Q' q => nC EC c1 cc (let ⟨o, ho, r⟩ := cel; ⟨o, c₅ _ _ ho (by simpa using cne), r⟩) q (by decide)) fun r₃ t₃ h₆ tk₆ b0 b1 X₆ c₆ => ?_
    refine ⟨⟨_, _, _, _, rfl, rfl, (key4_ok r₂ a0 a1).1, b0, b1⟩, ?_⟩
    have n1 : st ∉ C :: D :: [I] ++ [] := ho.ne j2.at1.choose_spec
    have n2 : l ∉ C :: D :: [I] ++ [] := ho.ne j2.at2.choose_spec
    have c46 : Ch [st] h₄ h₆ := c₅.trans c₆
    have hgh : Le (hideAll h₄ (C :: D :: [I] ++ [])) h₄ := fun b o q => of_hideAll _ q
    refine .of (g' := g) (m' := updN m (Str.ofString "_") v) rfl ((cs.mono fun q hq => by rw [List.mem_singleton.mp hq]; exact .head _).trans (c46.mono fun q hq => .tail _ hq)) (S₄.ns.at' fun o e => c46 _ o e (by rintro (_ | ⟨_, ⟨⟩⟩); exact n1 (.head _))) ?_
    refine ⟨fun b o e => hideAll_get _ (c46 _ _ (S₄.keep _ _ (j1 _ _ e)) fun q => ?_) (ho.ne (j1 _ _ e)), X₆.toNow.hide (g := g) n1 n2, ?_⟩
    · rw [List.mem_singleton.mp q, nH] at e; cases e
    · obtain ⟨o, e, r⟩ := j3
      exact ⟨o, hideAll_get _ (c46 _ _ (S₄.keep _ _ e) (by simpa using cne)) (ho.ne e), r⟩
  · intro D C g h' tk m' rs es ep hD hC hDC hn hd hR hle hoff ⟨j1, j2, j3⟩ hch
    refine ⟨m', hn, fun h'' hs'' => ?_⟩
    have hd'' := hs''.extBut _ _ hDC hd
    have k'' : Le g h'' := fun b o e => hs''.extBut b o (fun q => by rw [q, hoff C (.head _)] at e; cases e) (hle _ _ e)
    have kI : s.heap.objs.size ≤ h₃.objs.size := by
      obtain ⟨o, e, _⟩ := hcell₁
      exact hL ▸ Nat.le_of_lt (Nat.lt_of_succ_lt (Heap.lt_size (k₃ _ _ (k₂ _ _ e))))
    refine h D rs h'' tk ?_ ((j2.le k'').ok BH (fun b o e => k'' _ _ (j1 _ _ e)) nH) ?_
    · exact NewR.of (dd := none) (hD ▸ hsys) hd'' (hD ▸ kI) rfl hR
    · refine fun b o e hb => hs''.extBut b o ?_ (hch b o (k₃ _ _ (k₂ _ _ (c₁ _ _ (kk _ _ e) hb))) ?_)
      · exact ne_none (k₃ _ _ (k₂ _ _ (c₁ _ _ (kk _ _ e) hb))) hC
      · intro q
        rcases List.mem_append.mp q with q | q
        · exact hb q
        · exact ne_none (k₂ _ _ (c₁ _ _ (kk _ _ e) hb)) hIn (List.mem_singleton.mp q)
end
end Mine

set_option Elab.async false
set_option maxRecDepth 100000
set_option maxHeartbeats 8000000
set_option linter.unusedVariables false
open PySem PySem.W PyProof.Rows PySem.Calls
namespace Mine

local macro_rules | `(tactic| walk_at "m_s") => `(tactic| first
  | with_reducible refine wpAny_execs_cons ?_
  | with_reducible refine wpAny_execs_nil ?_
  | with_reducible refine wpAny_If ?_
  | with_reducible refine wpAny_Return_some ?_
  | ((with_reducible refine wpAny_Assign_Name ?_ ?hs); (case hs => with_unfolding_all rfl))
  | ((with_reducible refine wpAny_Assign_Subscript ?_ ?hs); (case hs => with_unfolding_all rfl))
  | with_reducible refine wpAny_BinOp ?_
  | ((with_reducible refine wpAny_Compare1 ?_ ?hm); (case hm => with_unfolding_all rfl))
  | ((with_reducible refine wpAny_isTrue_Compare1 ?_ ?hm); (case hm => with_unfolding_all rfl))
  | with_reducible refine wpAny_Constant_int ?_
  | with_reducible refine Constant_str ?_
  | with_reducible refine Constant_bool ?_
  | with_reducible refine Constant_none ?_
  | with_reducible refine Subscript_ ?_
  | with_reducible refine wpAny_truthy_bool ?_
  | ((with_reducible refine' nL (by assumption) (by assumption) (by assumption) ?hv ?_ ?hd); (case hd => decide); (case hv => first | assumption | with_unfolding_all rfl)))

theorem St.next {g h h' : Heap} {L st l : Addr} {m o} {pre post : List (Addr × Obj)} (S : St g L m (pre ++ (st, o) :: post) h) (hc : Ch [st] h h') (X : StNow h' st l) (hn : ∀ p ∈ pre ++ post, p.1 ≠ st) : ∃ o', St g L m (pre ++ (st, o') :: post) h' :=
  let ⟨o', ho⟩ := X.at1; ⟨o', S.upd hc ho hn⟩

def Oth (w : World) (g : Heap) (v : Value) (d : Option (Bool × Rw)) : Prop := (v = .none ∧ d = none) ∨ ∃ im a rs, v = .ref a ∧ d = some (im, rs) ∧ Rows w im g a rs
def OthN (w : World) (h₀ g : Heap) (v : Value) (d : Option (Bool × Rw)) : Prop := (v = .none ∧ d = none) ∨ ∃ im a rs, v = .ref a ∧ d = some (im, rs) ∧ NewR w im h₀ g a rs

theorem code168 (P : Params) : codeIn (hd.heap_39 P) (fdAt (hd.heap_39 P) 168).code (fdAt (hd.heap_39 P) 168).qualname = true := by kernel_rfl
theorem obj168 (P : Params) : List.lookup 168 (hd.heap_39 P) = some ⟨.type "function", none, .func (fdAt (hd.heap_39 P) 168), #[]⟩ := by kernel_rfl
theorem bind168 (P : Params) (v1 : Value) : bindArgs (fdAt (hd.heap_39 P) 168) ⟨[v1], []⟩ = pure [(Str.ofString "state", v1)] := by kernel_rfl
theorem cell168 (P : Params) : ((fdAt (hd.heap_39 P) 168).scope.names.all fun x => x.2 != .cell) = true := by kernel_rfl
theorem scope168 (P : Params) : ((fdAt (hd.heap_39 P) 168).scope.isCoroutine, (fdAt (hd.heap_39 P) 168).scope.isGenerator, (fdAt (hd.heap_39 P) 168).scope.kind, (fdAt (hd.heap_39 P) 168).globals, (fdAt (hd.heap_39 P) 168).builtins) = (false, false, .function, mainGlobals, builtinsNs) := by kernel_rfl

section
variable {w : World} {A : Around} {E : Value → Shared → Prop} {s : Shared}

theorem other_spec {n : Nat} {st l : Addr} {R : Result → Shared → Prop} (O : Ok A (n + 4)) (X : StOk w s.heap st l)
    (h : ∀ v d h' t', OthN w s.heap h' v d → StOk w h' st l → Ch [st] s.heap h' → R (.ok (.ret v)) { s with heap := h', toks := t' }) :
    codeAny (model Pg w) A (.call (.ref 168) ⟨[.ref st], []⟩) R s := by
  refine callFn O X.b (obj168 w.params) (code168 w.params) rfl (bind168 w.params (.ref st)) (cell168 w.params) (by kernel_rfl) (scope168 w.params) ?_
  intro env L h₀ he EE hL S₀ O'
  have k1 : env.kindOf (Str.ofString "state") = some .local := by subst he; rfl
  have k2 : env.kindOf (Str.ofString "kind") = some .local := by subst he; rfl
  have k3 : env.kindOf (Str.ofString "_law_next") = some .globalImplicit := by subst he; rfl
  have k4 : env.kindOf (Str.ofString "_law_plain") = some .globalImplicit := by subst he; rfl
  have k5 : env.kindOf (Str.ofString "immutabledict") = some .globalImplicit := by subst he; rfl
  clear he
  obtain ⟨⟨H₀, BH, kH, nH⟩, _⟩ := id X
  obtain ⟨ost, host⟩ := X.toNow.at1
  have X₀ := X.le S₀.keep
  have S := S₀.thaw host
  have kg := hide_le nH kH
  have Bg := BH.keeps kg
  have hch : ∀ h', Le (s.heap.hide st) h' → Ch [st] s.heap h' := fun h' q => ch_of_hide q
  have hgn : (s.heap.hide st).get? st = none := Heap.hide_self _ _
  generalize s.heap.hide st = g at *
  have fin : ∀ v d h₁ h' t', Ch [st] s.heap h₁ → StNow h₁ st l → OthN w h₁ h' v d → StOk w h' st l → Ch [st] h₁ h' → R (.ok (.ret v)) { s with heap := h', toks := t' } := fun v d h₁ h' t' c₁ n₁ o x c₂ => by
    refine h v d h' t' (o.imp id fun ⟨im, a, rs, e1, e2, N⟩ => ⟨im, a, rs, e1, e2, N.older fun b x e => ?_⟩) x (c₁.trans c₂)
    by_cases q : b = st
    · exact q ▸ n₁.at1
    · exact ⟨x, c₁ _ _ e (by simpa using q)⟩
  repeat walk_at "m_s"
  refine eval_next (s := { s with heap := h₀, toks := s.toks + 1 }) (O'.mono (m := n + 1) (by omega)) X₀ (by decide) (fun Q' q => nK EE X₀.b k3 (gName w.params).1 q (by decide)) EE (fun Q' q => nL EE S k1 rfl q (by decide)) fun r t₁ h₁ tk₁ r0 r1 X₁ c₁ => ?_
  obtain ⟨o₁, S₁⟩ := St.next (pre := []) (post := []) S c₁ X₁.toNow (fun p q => nomatch q)
  refine sL' EE S₁ k2 fun h₂ S₂ cs₂ => ?_
  obtain ⟨ol, hol⟩ := X.toNow.at2
  have X₂ : StOk w h₂ st l := (X₁.toNow.ch cs₂ (by simpa using ne_none host hL) (by simpa using ne_none hol hL)).ok Bg S₂.keep hgn
  have C₂ := hch _ S₂.keep
  have cases5 : r = 0 ∨ r = 1 ∨ r = 2 ∨ r = 3 ∨ r = 4 := by omega
  dsimp only
  repeat walk_at "m_s"
  refine eq_int ?_
  refine wpAny_truthy_bool ?_
  have skip : ∀ {P : Prop}, P → P := fun h => h
  rcases cases5 with rfl | rfl | rfl | rfl | rfl
  · show wpAny _ _ (execs _ _) _ _ _
    repeat walk_at "m_s"
    dsimp only
    exact fin _ none h₂ _ _ C₂ X₂.toNow (.inl ⟨rfl, rfl⟩) X₂ (.refl _ _)
  · show wpAny _ _ (execs _ _) _ _ _
    repeat walk_at "m_s"
    dsimp only
    repeat walk_at "m_s"
    refine eq_int ?_
    refine wpAny_truthy_bool ?_
    show wpAny _ _ (execs _ _) _ _ _
    repeat walk_at "m_s"
    rw [eval_Dict_empty]
    refine wpAny_bind (wpAny_standAt (wpAny_newObj_type ?_))
    dsimp only
    have k := Le.push h₂ { cls := .type "dict", data := .dict #[] }
    exact fin _ (some (false, [])) h₂ _ _ C₂ X₂.toNow (.inr ⟨false, _, [], rfl, rfl, NewR.of X₂.b.fresh_sys (Heap.get?_push_size _ rfl) (Nat.le_refl _) rfl (.nil w)⟩) (X₂.le k) (.of_le k)
  · iterate 2
      show wpAny _ _ (execs _ _) _ _ _
      repeat walk_at "m_s"
      dsimp only
      repeat walk_at "m_s"
      refine eq_int ?_
      refine wpAny_truthy_bool ?_
    show wpAny _ _ (execs _ _) _ _ _
    repeat walk_at "m_s"
    refine Call_Name0 (nK EE X₂.b k5 (gName w.params).2.2.2.2.2.1 (cwK0 (w := w) X₂.b (keepF_of 145 (by decide)) ?_) (by decide))
    refine call_im_0 X₂.b fun d dx h₃ e1 e2 e3 e4 e5 e6 e7 => ?_
    dsimp only
    exact fin _ (some (true, [])) h₂ _ _ C₂ X₂.toNow (.inr ⟨true, _, [], rfl, rfl, NewR.of e6 e1 e5 ⟨dx, rfl, e3, e4, e2⟩ (.nil w)⟩) (X₂.le e7) (.of_le e7)
  · iterate 3
      show wpAny _ _ (execs _ _) _ _ _
      repeat walk_at "m_s"
      dsimp only
      repeat walk_at "m_s"
      refine eq_int ?_
      refine wpAny_truthy_bool ?_
    show wpAny _ _ (execs _ _) _ _ _
    repeat walk_at "m_s"
    refine Call_Name1 (nK EE X₂.b k4 (gName w.params).2.1 (cwK1 (w := w) (keepF_of 161 (by decide)) ?_) (by decide)) rfl
    refine nL EE S₂ k1 rfl ⟨X₂.b, wpAny_call ?_⟩
    refine plain_spec O' X₂ fun d rs h₃ t₃ N X₃ c₃ => ?_
    dsimp only at N c₃ ⊢
    exact fin _ (some (false, rs)) h₂ _ _ C₂ X₂.toNow (.inr ⟨false, _, rs, rfl, rfl, N⟩) X₃ c₃
  · iterate 3
      show wpAny _ _ (execs _ _) _ _ _
      repeat walk_at "m_s"
      dsimp only
      repeat walk_at "m_s"
      refine eq_int ?_
      refine wpAny_truthy_bool ?_
    show wpAny _ _ (execs _ _) _ _ _
    repeat walk_at "m_s"
    dsimp only
    repeat walk_at "m_s"
    refine Call_Name1 (nK EE X₂.b k5 (gName w.params).2.2.2.2.2.1 (cwK1 (w := w) (keepF_of 145 (by decide)) ?_) (by decide)) rfl
    refine Call_Name1 (nK EE X₂.b k4 (gName w.params).2.1 (cwK1 (w := w) (keepF_of 161 (by decide)) ?_) (by decide)) rfl
    refine nL EE S₂ k1 rfl ⟨X₂.b, wpAny_call ?_⟩
    refine plain_spec O' X₂ fun d rs h₃ t₃ N X₃ c₃ => ?_
    dsimp only at N c₃ ⊢
    refine ⟨X₃.b, call_im_D (s := { s with heap := h₃, toks := t₃ }) X₃.b N.rows fun d' h₄ t₄ N' k₄ => ?_⟩
    exact fin _ (some (true, rs)) h₃ _ _ (C₂.trans c₃) X₃.toNow (.inr ⟨true, _, rs, rfl, rfl, N'⟩) (X₃.le k₄) (.of_le k₄)
end
end Mine

set_option Elab.async false
set_option maxRecDepth 100000
set_option maxHeartbeats 8000000
set_option linter.unusedVariables false
open PySem PySem.W PyProof.Rows PySem.Calls
namespace Mine

local macro_rules | `(tactic| walk_at "m_s") => `(tactic| first
  | with_reducible refine wpAny_execs_cons ?_
  | with_reducible refine wpAny_execs_nil ?_
  | with_reducible refine wpAny_If ?_
  | with_reducible refine wpAny_Return_some ?_
  | ((with_reducible refine wpAny_Assign_Name ?_ ?hs); (case hs => with_unfolding_all rfl))
  | ((with_reducible refine wpAny_Assign_Subscript ?_ ?hs); (case hs => with_unfolding_all rfl))
  | with_reducible refine wpAny_BinOp ?_
  | ((with_reducible refine wpAny_Compare1 ?_ ?hm); (case hm => with_unfolding_all rfl))
  | ((with_reducible refine wpAny_isTrue_Compare1 ?_ ?hm); (case hm => with_unfolding_all rfl))
  | with_reducible refine wpAny_Constant_int ?_
  | with_reducible refine Constant_str ?_
  | with_reducible refine Constant_bool ?_
  | with_reducible refine Constant_none ?_
  | with_reducible refine Subscript_ ?_
  | with_reducible refine wpAny_truthy_bool ?_
  | ((with_reducible refine' nL (by assumption) (by assumption) (by assumption) ?hv ?_ ?hd); (case hd => decide); (case hv => first | assumption | with_unfolding_all rfl)))

/-! ## a for loop over what walks -/
structure ForPlan (prog : Program) (w : World) (A : Around) (env : Env) (target : Expr) (body : List Stmt) (s₂ : Shared) (I : Addr) (fp wr : List Addr) (n : Nat) (P : Nat → Value → Prop)
    (StI : Nat → Heap → Prop) (K : Nat → Heap → Prop) (Q : Flow → Shared → Prop) : Prop where
  W : Walks prog w A I fp wr n P StI
  ht : ∀ v, letOwnedTupleGo target (.ref I) v = pure ()
  hst : StI 0 s₂.heap
  hK : K 0 s₂.heap
  hKw : ∀ i h h', K i h → Ch wr h h' → K i h'
  turn : ∀ i v h tk E', i < n → P i v → K i h → StI (i + 1) h →
    wpAny (model prog w) A (assign target env v) (fun _ s₄ => wpAny (model prog w) A (execs body env) (fun f s₃ => match f with
      | .next | .cont => ∃ h' tk', s₃ = { s₂ with heap := h', toks := tk' } ∧ K (i + 1) h' ∧ ∀ b ∈ fp, ∀ o, h.get? b = some o → h'.get? b = some o
      | .brk => Q .next s₃
      | .ret v => Q (.ret v) s₃) E' s₄) E' { s₂ with heap := h, toks := tk }
  done : ∀ h tk, K n h → Q .next { s₂ with heap := h, toks := tk }

section
variable {prog : Program} {w : World} {A : Around} {E : Value → Shared → Prop} {env : Env}
theorem for_walk {s : Shared} {target iter : Expr} {body : List Stmt} {pos : Pos} {Q : Flow → Shared → Prop}
    (h : wpAny (model prog w) A (eval iter env) (fun xv s₁ => wpAny (model prog w) A (pyIter xv) (fun it s₂ => ∃ I fp wr n P StI K, it = .ref I ∧ ForPlan prog w A env target body s₂ I fp wr n P StI K Q) E s₁) E s)
    (hs : ∀ x, foldedSetIterable iter env x = pure x := by intro _; rfl) :
    wpAny (model prog w) A (exec (.For target iter body [] pos) env) Q E s := by
  refine wpAny_For (wpAny_mono h (fun xv s₁ h₁ => wpAny_mono h₁ (fun it s₂ h₂ => ?_) fun _ _ e => e) fun _ _ e => e) hs
  obtain ⟨I, fp, wr, n, P, StI, K, rfl, X⟩ := h₂
  refine codeAny_forLoop (fun k s' => ∃ h' tk i, s' = { s₂ with heap := h', toks := tk } ∧ i ≤ n ∧ k = n + 1 - i ∧ StI i h' ∧ K i h') ?_ (n + 1) ⟨s₂.heap, s₂.toks, 0, rfl, Nat.zero_le _, rfl, X.hst, X.hK⟩ X.ht
  rintro k s' ⟨h', tk, i, rfl, hi, rfl, hst', hK'⟩
  by_cases hlt : i < n
  · refine X.W.item i _ _ _ hlt hst' fun v h₁ tk₁ hP hst₁ hk₁ => ?_
    dsimp only
    refine wpAny_mono (X.turn i v h₁ tk₁ _ hlt hP (X.hKw _ _ _ hK' fun b o e n => hk₁ b o n e) hst₁) (fun _ s₃ h₃ => wpAny_mono h₃ (fun f s₄ h₄ => ?_) fun _ _ e => e) fun _ _ e => e
    cases f with
    | next => obtain ⟨h'', tk'', rfl, a, b⟩ := h₄; exact ⟨n + 1 - (i + 1), by omega, h'', tk'', i + 1, rfl, hlt, rfl, X.W.frame _ _ _ hst₁ b, a⟩
    | cont => obtain ⟨h'', tk'', rfl, a, b⟩ := h₄; exact ⟨n + 1 - (i + 1), by omega, h'', tk'', i + 1, rfl, hlt, rfl, X.W.frame _ _ _ hst₁ b, a⟩
    | brk => exact h₄
    | ret v => exact h₄
  · have hin : i = n := by omega
    subst hin
    refine X.W.done _ _ _ hst' fun h₁ tk₁ hk₁ => wpAny_execs_nil ?_
    exact X.done h₁ tk₁ (X.hKw _ _ _ hK' fun b o e n => hk₁ b o n e)

/-- range(e), walked: its iterator -/
theorem range_it {s : Shared} {e : Expr} {p1 pos : Pos} {L : Addr} {Q : Value → Shared → Prop} (EE : EF env L) (B : Base w s.heap) (kr : env.kindOf (Str.ofString "range") = some .globalImplicit)
    (h : wpAny (model prog w) A (eval e env) (fun v s₁ => ∃ r t, v = .int r t ∧ 0 ≤ r ∧ r < 1000 ∧ ∀ h₃ I tk, Le s₁.heap h₃ → s₁.heap.get? I = none → I < h₃.objs.size → IsRangeIter h₃ I (0 + ((0 : Nat) : Int) * 1) ((r.toNat : Int) - ((0 : Nat) : Int)) 1 → Q (.ref I) { s₁ with heap := h₃, toks := tk }) E s)
    (hse : starEach [e] env = [(false, eval e env)] := by rfl) :
    wpAny (model prog w) A (eval (.Call (.Name (Str.ofString "range") p1) [e] [] pos) env) (fun xv s₁ => wpAny (model prog w) A (pyIter xv) Q E s₁) E s := by
  refine Call_Name1 (nB EE B kr (notMine_of "range" (by decide)) boots.2.2.1 (by decide) (cwT1 (wpAny_mono h (fun v s₁ h₁ => ?_) fun _ _ e => e))) hse
  obtain ⟨r, t, rfl, r0, r1, h₁⟩ := h₁
  refine call_range_1 ?_
  refine wpAny_pyIter_range (IsRange.new ..) (small_one (by decide) (by decide) (by omega) (by omega)) ?_
  have k1 := Le.push s₁.heap { cls := .type "range", data := .fields #[.int 0 s₁.toks, .int r t, .int 1 (s₁.toks + 1)] }
  have hsz : Builtin.Range.rangeSize 0 r 1 = (r.toNat : Int) := by rw [rangeSize_nat]; omega
  rw [hsz]
  have z : ∀ (H : Heap) (I : Addr), I = H.objs.size → (s₁.heap.get? I = none) → Le s₁.heap H →
      Q (.ref I) { s₁ with heap := H.push { cls := .type "range_iterator", data := .fields #[rawInt 0, rawInt (r.toNat : Int), rawInt 1] }, toks := s₁.toks + 1 + 1 } := fun H I e n k => by
    refine h₁ _ _ _ (fun b o e => Heap.get?_push_of_some _ (k _ _ e)) n (by rw [Heap.size_push, e]; exact Nat.lt_succ_self _) ?_
    rw [e]
    have := Heap.get?_push_size H (o := { cls := .type "range_iterator", data := .fields #[rawInt 0, rawInt (r.toNat : Int), rawInt 1] }) rfl
    simpa [IsRangeIter] using this
  refine z (s₁.heap.push { cls := .type "range", data := .fields #[.int 0 s₁.toks, .int r t, .int 1 (s₁.toks + 1)] }) _ rfl (get_none_ge ?_) k1
  rw [Heap.size_push]; exact Nat.le_succ _

/-- a call of an own def whose last name takes the rest -/
theorem callFnV {s : Shared} {n : Nat} {a : Addr} {fd : FuncData} {body : List Stmt} {args : Args} {vs : List Value} {binds : Value → List (Str × Value)} {R : Result → Shared → Prop} (O : Ok A (n + 1)) (B : Base w s.heap)
    (ho : List.lookup a (KK w) = some ⟨.type "function", none, .func fd, #[]⟩) (hcode : codeIn (KK w) fd.code fd.qualname = true) (hbody : fd.body = .stmts body) (hbind : bindArgs fd args = newTuple vs >>= fun t => pure (binds t)) (hsz : vs.length ≤ sizeLine)
    (hcell : (fd.scope.names.all fun x => x.2 != .cell) = true) (hloc : ∀ t, ((binds t).all fun x => fd.scope.names.lookup x.1 == some .local) = true)
    (hsc : (fd.scope.isCoroutine, fd.scope.isGenerator, fd.scope.kind, fd.globals, fd.builtins) = (false, false, .function, mainGlobals, builtinsNs))
    (h : ∀ env L h₀ T tk, env = callEnv fd L a → EF env L → s.heap.get? L = none → s.heap.get? T = none → T ≠ L → IsTup h₀ T vs.toArray → St s.heap L (fun x => (binds (.ref T)).reverse.lookup x) [] h₀ → Ok (A.deeper env) n →
      wpAny (model Pg w) (A.deeper env) (execs body env) (fun f s' => R (.ok (.ret (match f with | .ret v => v | _ => .none))) s') (fun _ _ => False) { s with heap := h₀, toks := tk }) :
    codeAny (model Pg w) A (.call (.ref a) args) R s := by
  obtain ⟨hco, hgen, hk, hg, hb⟩ : fd.scope.isCoroutine = false ∧ fd.scope.isGenerator = false ∧ fd.scope.kind = .function ∧ fd.globals = mainGlobals ∧ fd.builtins = builtinsNs := by
    simp only [Prod.mk.injEq] at hsc; exact hsc
  have hcell' : ∀ x ∈ fd.scope.names, x.2 ≠ .cell := fun x hx e => by
    have := List.all_eq_true.mp hcell x hx; rw [e] at this; cases this
  refine codeAny_call_function O.room (B.k _ _ ho) rfl hco hgen hbody (codeRec_of B.k hcode) ?_
  rw [hbind]
  refine wpAny_bind (wpAny_newTuple ?_ hsz)
  refine wpAny_pure ?_
  have k1 := Le.push s.heap { cls := .type "tuple", data := .seq vs.toArray }
  refine wpAny_newFunctionEnv hcell' (fun x hx => by simpa using List.all_eq_true.mp (hloc _) x hx) (fun h₀ hns₀ hsb₀ => ?_) hk
  dsimp only at hns₀ hsb₀ ⊢
  have k2 : Le (s.heap.push { cls := .type "tuple", data := .seq vs.toArray }) h₀ := fun b o e => hsb₀.extBut b o (Nat.ne_of_lt (Heap.lt_size e)) (Heap.get?_push_of_some _ e)
  have kk : Le s.heap h₀ := fun b o e => k2 _ _ (k1 _ _ e)
  refine ⟨(B.keeps kk).lim, codeAny_func ?_⟩
  have hn1 : s.heap.get? (s.heap.push { cls := .type "tuple", data := .seq vs.toArray }).objs.size = none := get_none_ge (by rw [Heap.size_push]; exact Nat.le_succ _)
  have ht : (s.heap.push { cls := .type "tuple", data := .seq vs.toArray }).get? s.heap.objs.size = some { cls := .type "tuple", data := .seq vs.toArray } := Heap.get?_push_size _ rfl
  refine wpAny_mono (h (callEnv fd _ a) _ h₀ s.heap.objs.size _ rfl ⟨hk, rfl, hg, hb⟩ hn1 (get_none_ge (Nat.le_refl _)) (Nat.ne_of_lt (Heap.lt_size ht)) ⟨_, k2 _ _ ht, rfl, _, rfl⟩ ⟨hns₀, kk, hn1, fun _ q => (nomatch q)⟩ (O.deeper _)) (fun _ _ q => q) fun _ _ q => q.elim
end
end Mine

set_option Elab.async false
set_option maxRecDepth 100000
set_option maxHeartbeats 8000000
set_option linter.unusedVariables false
open PySem PySem.W PyProof.Rows PySem.Calls
namespace Mine

local macro_rules | `(tactic| walk_at "m_s") => `(tactic| first
  | with_reducible refine wpAny_execs_cons ?_
  | with_reducible refine wpAny_execs_nil ?_
  | with_reducible refine wpAny_If ?_
  | with_reducible refine wpAny_Return_some ?_
  | ((with_reducible refine wpAny_Assign_Name ?_ ?hs); (case hs => with_unfolding_all rfl))
  | ((with_reducible refine wpAny_Assign_Subscript ?_ ?hs); (case hs => with_unfolding_all rfl))
  | with_reducible refine wpAny_BinOp ?_
  | ((with_reducible refine wpAny_Compare1 ?_ ?hm); (case hm => with_unfolding_all rfl))
  | ((with_reducible refine wpAny_isTrue_Compare1 ?_ ?hm); (case hm => with_unfolding_all rfl))
  | with_reducible refine wpAny_Constant_int ?_
  | with_reducible refine Constant_str ?_
  | with_reducible refine Constant_bool ?_
  | with_reducible refine Constant_none ?_
  | with_reducible refine Subscript_ ?_
  | with_reducible refine wpAny_truthy_bool ?_
  | ((with_reducible refine' nL (by assumption) (by assumption) (by assumption) ?hv ?_ ?hd); (case hd => decide); (case hv => first | assumption | with_unfolding_all rfl)))

theorem isIn145 (P : Params) : isIn (hd.heap_39 P) (.ref 145) 145 = true := by kernel_rfl
theorem isNot145 (P : Params) : isNotIn (hd.heap_39 P) "dict" 145 = true := by kernel_rfl

section
variable {w : World} {A : Around} {E : Value → Shared → Prop} {s : Shared} {prog : Program} {a : Addr} {es : Array DictEntry} {ep : Nat} {rs : Rw} {im : Bool}

theorem isinst_im {Q : Value → Shared → Prop} (B : Base w s.heap) (D : DAt im s.heap a es ep) (h : ∀ tk, Q (.bool im) { s with toks := tk }) : wpAny (model prog w) A (call (.builtin "isinstance") [.ref a, .ref 145]) Q E s := by
  cases im with
  | true => exact isi_call B.k (fun M => D.typ) (isIn145 w.params) (by intro q; cases q) (h s.toks)
  | false =>
    obtain ⟨_, dd, ho, _⟩ := id D
    exact isn_call (P := fun h => ∃ o, h.get? a = some o ∧ o.cls = .type "dict") B.k (fun M => D.typ) (isNot145 w.params) (by intro q; cases q) ⟨_, ho, rfl⟩
      (fun {prog w A E Q s} p q => by obtain ⟨o, ho, hc⟩ := p; obtain ⟨hh, g, d, t, os⟩ := s; exact class_attr_dict ho hc q) (h _)

theorem isinst_dict {Q : Value → Shared → Prop} (B : Base w s.heap) (D : DAt im s.heap a es ep) (h : Q (.bool true) s) : wpAny (model prog w) A (call (.builtin "isinstance") [.ref a, .type "dict"]) Q E s := by
  refine call_isinstance_of ?_ (by intro q; cases q)
  unfold Builtin.«isinstance.nested»
  refine wpAny_bind (D.typ.here ?_)
  by_cases he : (clsV im == Value.type "dict") = true
  · rw [if_pos he]
    repeat (first | refine wpAny_pure ?_ | refine wpAny_rule ?_ | refine wpAny_bind ?_)
    exact h
  · rw [if_neg he]
    refine wpAny_bind (m := typeOf (.type "dict")) (wpAny_of_eq (a := .type "type") (by kernel_rfl) ?_)
    show wpAny _ _ (if (Value.type "type" == Value.type "type") = true then _ else _) _ _ s
    rw [if_pos (by decide)]
    refine wpAny_bind (wpAny_bind (m := isType (.type "dict")) (wpAny_pure (a := true) ?_))
    refine wpAny_bind (m := isInstance (.ref a) (.type "dict")) ((D.isDict B).here ?_)
    exact wpAny_pure (a := true) (wpAny_pure h)

/-- o.name(…): the function told by the class -/
theorem method_D {f t : Value} {name : Str} {pl : Sem Bool} {Q : Value × List Value → Shared → Prop} (B : Base w s.heap) (D : DAt im s.heap a es ep) (hf : findIn (KK w) (clsV im) name = some (some f)) (ht : typeIn (KK w) f = some t)
    (hT : (t != .type "function" && t != .type "method_descriptor" && t != .type "wrapper_descriptor") = false) (h : Q (f, [.ref a]) s) :
    wpAny (model prog w) A (getMethod (.ref a) name pl) Q E s := by
  have hcan : (Manifest.canonical "dict.__getattribute__" != "object.__getattribute__") = false := by decide +kernel
  obtain ⟨_, dd, ho, hx⟩ := id D
  unfold getMethod specialOf
  refine wpAny_bind (wpAny_bind (D.typ.here ((looks_findIn B.k (find_ga w.params im)).here ?_)))
  dsimp only
  rw [hcan, if_neg (by decide)]
  refine wpAny_bind (wpAny_bind (D.typ.here ((looks_findIn B.k (find_gattr w.params im)).here ?_)))
  refine wpAny_bind (wpAny_bind (D.typ.here ((looks_findIn B.k hf).here (wpAny_bind ((looks_typeIn B.k ht).here ?_)))))
  rw [hT, if_neg (by decide)]
  refine wpAny_bind (wpAny_loadPart ho ?_)
  cases im with
  | false => subst hx; exact wpAny_bind (wpAny_rule (wpAny_pure h))
  | true =>
    obtain ⟨dx, rfl, _, hd⟩ := hx
    refine wpAny_bind (wpAny_bind (wpAny_loadPart hd ?_))
    rw [nsLook_of (r := none) (by rfl)]
    refine wpAny_pure ?_
    exact wpAny_bind (wpAny_rule (wpAny_pure h))

theorem find_upd : findCls [] (.type "dict") (.type "type") "update" = some (.val (.builtin "dict.update")) := by kernel_rfl
theorem find_repr : findCls [] (.type "dict") (.type "type") "__repr__" = some (.val (.builtin "dict.__repr__")) := by kernel_rfl
theorem method_dict {v : Value} {name : Str} {pl : Sem Bool} {Q : Value × List Value → Shared → Prop} (hv : handedIn v = true) (e : findCls [] (.type "dict") (.type "type") name = some (.val v)) (h : Q (v, []) { s with toks := s.toks + 1 }) :
    wpAny (model prog w) A (getMethod (.type "dict") name pl) Q E s := by
  have X : Frag.In ([] : Frag) s.heap := fun a o q => nomatch q
  have hstub : opaqueClassAbove (.type "dict") = pure none := by unfold opaqueClassAbove; dsimp only; rw [show Manifest.isStub "dict" = false by decide +kernel]; rfl
  have L0 : Looks (model prog w) s.heap (typeOf (.type "dict")) (.type "type") := Looks.of_pure (by kernel_rfl)
  have hg : findIn [] (.type "type") "__getattribute__" = some (some (.builtin "type.__getattribute__")) := type_tga
  unfold getMethod specialOf
  refine wpAny_bind (wpAny_bind (L0.here ((looks_findIn X hg).here ?_)))
  dsimp only
  rw [if_pos canon_tga]
  refine wpAny_bind (wpAny_mono (Q := fun v => Q (v, [])) (E := E) ?_ (fun _ _ z => wpAny_pure z) fun _ _ z => z)
  have LO : Looks (model prog w) s.heap (opaqueClassAbove (.type "dict")) none := Looks.of_pure hstub
  refine cls_open X LO L0 hg (looks_hook X (r := none) (by rfl)) (by show subIn [] _ _ = _; rfl) e
    (wpAny_pure (by show wpAny _ _ (handedOut v) _ _ _; rw [handedOut_of hv]; exact wpAny_pure h))
end

section
variable {M : Model} {A : Around} {E : Value → Shared → Prop} {s : Shared} {env : Env} {o e₁ e₂ e₃ : Expr} {name : Str} {apos pos : Pos} {pl : Sem Bool} {Q : Value → Shared → Prop}
theorem mCall0 (h : wpAny M A (eval o env) (fun ov s₁ => wpAny M A (getMethod ov name pl) (fun fx s₂ => wpAny M A (callWith pos fx.1 fx.2 [] []) Q E s₂) E s₁) E s)
    (he : eval (.Call (.Attribute o name apos) [] [] pos) env = (do
      let ov ← eval o env
      standAt apos.atName
      let (f, first) ← holding [ov] (getMethod ov name pl)
      callWith pos f first (backTo pos (starEach [] env)) (backToKw pos (keywordEach [] env))) := by rfl) :
    wpAny M A (eval (.Call (.Attribute o name apos) [] [] pos) env) Q E s := methodCall_KW (pl := pl) h he
theorem mCall1 (h : wpAny M A (eval o env) (fun ov s₁ => wpAny M A (getMethod ov name pl) (fun fx s₂ => wpAny M A (callWith pos fx.1 fx.2 [(false, eval e₁ env)] []) Q E s₂) E s₁) E s)
    (hs : starEach [e₁] env = [(false, eval e₁ env)] := by rfl)
    (he : eval (.Call (.Attribute o name apos) [e₁] [] pos) env = (do
      let ov ← eval o env
      standAt apos.atName
      let (f, first) ← holding [ov] (getMethod ov name pl)
      callWith pos f first (backTo pos (starEach [e₁] env)) (backToKw pos (keywordEach [] env))) := by rfl) :
    wpAny M A (eval (.Call (.Attribute o name apos) [e₁] [] pos) env) Q E s := methodCall_KW (pl := pl) (by rw [hs]; exact h) he
theorem mCall2 (h : wpAny M A (eval o env) (fun ov s₁ => wpAny M A (getMethod ov name pl) (fun fx s₂ => wpAny M A (callWith pos fx.1 fx.2 [(false, eval e₁ env), (false, eval e₂ env)] []) Q E s₂) E s₁) E s)
    (hs : starEach [e₁, e₂] env = [(false, eval e₁ env), (false, eval e₂ env)] := by rfl)
    (he : eval (.Call (.Attribute o name apos) [e₁, e₂] [] pos) env = (do
      let ov ← eval o env
      standAt apos.atName
      let (f, first) ← holding [ov] (getMethod ov name pl)
      callWith pos f first (backTo pos (starEach [e₁, e₂] env)) (backToKw pos (keywordEach [] env))) := by rfl) :
    wpAny M A (eval (.Call (.Attribute o name apos) [e₁, e₂] [] pos) env) Q E s := methodCall_KW (pl := pl) (by rw [hs]; exact h) he
end
end Mine

set_option Elab.async false
set_option maxRecDepth 100000
set_option maxHeartbeats 8000000
set_option linter.unusedVariables false
open PySem PySem.W PyProof.Rows PySem.Calls
namespace Mine

/-! ## the pure law of the union -/
abbrev It := Value × Option (Bool × Rw)
def filledIt (p : It) : Bool := match p.2 with | some (_, r) => !r.isEmpty | none => false
def imIt (p : It) : Bool := match p.2 with | some (im, _) => im | none => false
def mergeIts (rs : Rw) (l : List It) : Rw := l.foldl (fun acc p => match p.2 with | some (_, r) => mergeR acc r | none => acc) rs

theorem filter_take_succ {l : List It} {i : Nat} {p : It} (h : l[i]? = some p) : (l.take (i + 1)).filter filledIt = (l.take i).filter filledIt ++ (if filledIt p then [p] else []) := take_succ_filter filledIt l i p h
theorem mergeIts_take {rs : Rw} {l : List It} {i : Nat} {p : It} (h : l[i]? = some p) : mergeIts rs (l.take (i + 1)) = (match p.2 with | some (_, r) => mergeR (mergeIts rs (l.take i)) r | none => mergeIts rs (l.take i)) := by
  simp only [mergeIts, List.take_add_one, h, List.foldl_append, Option.toList_some, List.foldl_cons, List.foldl_nil]
theorem mergeIts_skip {rs : Rw} {l : List It} {i : Nat} {p : It} (h : l[i]? = some p) (hf : filledIt p = false) : mergeIts rs (l.take (i + 1)) = mergeIts rs (l.take i) := by
  rw [mergeIts_take h]
  unfold filledIt at hf
  split at hf
  · rename_i im r e
    have : r = [] := by simpa using hf
    subst this; rfl
  · rfl

/-- the state of the search: what only_one is while it has not ended -/
def OneInv (c : Addr) (rs : Rw) (l : List It) (o : Value) : Prop :=
  (rs ≠ [] ∧ l.filter filledIt = [] ∧ o = .ref c) ∨ (rs = [] ∧ l.filter filledIt = [] ∧ o = .bool false) ∨ (rs = [] ∧ ∃ p, l.filter filledIt = [p] ∧ imIt p = true ∧ o = p.1)
def Many (rs : Rw) (l : List It) : Prop := l.filter filledIt ≠ [] ∧ ¬ (rs = [] ∧ ∃ p, l.filter filledIt = [p] ∧ imIt p = true)
theorem filter_pre (l : List It) (i : Nat) : ∃ t, l.filter filledIt = (l.take i).filter filledIt ++ t := ⟨(l.drop i).filter filledIt, by rw [← List.filter_append, List.take_append_drop]⟩
theorem Many.of {rs : Rw} {l : List It} {i : Nat} (h : Many rs (l.take i)) (h1 : rs = [] → ∀ p, (l.take i).filter filledIt = [p] → imIt p = false) : Many rs l := by
  obtain ⟨t, e⟩ := filter_pre l i
  refine ⟨fun q => h.1 ?_, fun ⟨hr, p, q, hp⟩ => ?_⟩
  · rw [e] at q; exact (List.append_eq_nil_iff.mp q).1
  · rw [e] at q
    cases hz : (l.take i).filter filledIt with
    | nil => exact h.1 hz
    | cons x r =>
      rw [hz] at q
      cases r with
      | nil =>
        simp only [List.cons_append, List.nil_append, List.cons.injEq] at q
        have := h1 hr x hz
        rw [q.1, hp] at this; cases this
      | cons y r' => simp at q

def Res (w : World) (h₀ h' : Heap) (c : Addr) (rs : Rw) (l : List It) (v : Value) : Prop :=
  (l.filter filledIt = [] ∧ v = .ref c) ∨ (rs = [] ∧ ∃ p, l.filter filledIt = [p] ∧ imIt p = true ∧ v = p.1) ∨ (Many rs l ∧ ∃ a, v = .ref a ∧ NewR w true h₀ h' a (mergeIts rs l))

theorem code114 (P : Params) : codeIn (hd.heap_39 P) (fdAt (hd.heap_39 P) 114).code (fdAt (hd.heap_39 P) 114).qualname = true := by kernel_rfl
theorem obj114 (P : Params) : List.lookup 114 (hd.heap_39 P) = some ⟨.type "function", none, .func (fdAt (hd.heap_39 P) 114), #[]⟩ := by kernel_rfl
theorem bind114 (P : Params) (v1 v2 : Value) : bindArgs (fdAt (hd.heap_39 P) 114) ⟨[v1, v2], []⟩ = pure [(Str.ofString "self", v1), (Str.ofString "others", v2)] := by kernel_rfl
theorem cell114 (P : Params) : ((fdAt (hd.heap_39 P) 114).scope.names.all fun x => x.2 != .cell) = true := by kernel_rfl
theorem scope114 (P : Params) : ((fdAt (hd.heap_39 P) 114).scope.isCoroutine, (fdAt (hd.heap_39 P) 114).scope.isGenerator, (fdAt (hd.heap_39 P) 114).scope.kind, (fdAt (hd.heap_39 P) 114).globals, (fdAt (hd.heap_39 P) 114).builtins) = (false, false, .function, mainGlobals, builtinsNs) := by kernel_rfl

theorem Oth.keeps {w : World} {g h : Heap} {v d} (x : Oth w g v d) (k : Le g h) : Oth w h v d := x.imp id fun ⟨im, a, rs, e1, e2, R⟩ => ⟨im, a, rs, e1, e2, R.keeps k⟩
section
variable {w : World} {A : Around} {E : Value → Shared → Prop} {s : Shared} {prog : Program}
/-- the truth of one of the others -/
theorem truthy_oth {p : It} {Q : Bool → Shared → Prop} (B : Base w s.heap) (x : Oth w s.heap p.1 p.2) (h : ∀ tk, Q (filledIt p) { s with toks := tk }) : wpAny (model prog w) A (truthy p.1) Q E s := by
  obtain ⟨v, d⟩ := p
  rcases x with ⟨rfl, rfl⟩ | ⟨im, a, rs, rfl, rfl, es, ep, D, R⟩
  · exact truthy_none (h s.toks)
  · refine truthy_D B D (by have := R.size_le; omega) fun t' => ?_
    have : ((es.size : Int) != 0) = filledIt (.ref a, some (im, rs)) := by
      show _ = !rs.isEmpty
      rw [R.size]
      cases rs <;> simp <;> omega
    rw [this]; exact h t'
end
end Mine

set_option Elab.async false
set_option maxRecDepth 100000
set_option maxHeartbeats 8000000
set_option linter.unusedVariables false
open PySem PySem.W PyProof.Rows PySem.Calls
namespace Mine

local macro_rules | `(tactic| walk_at "m_s") => `(tactic| first
  | with_reducible refine wpAny_execs_cons ?_
  | with_reducible refine wpAny_execs_nil ?_
  | with_reducible refine wpAny_If ?_
  | with_reducible refine wpAny_Return_some ?_
  | ((with_reducible refine wpAny_Assign_Name ?_ ?hs); (case hs => with_unfolding_all rfl))
  | ((with_reducible refine wpAny_Assign_Subscript ?_ ?hs); (case hs => with_unfolding_all rfl))
  | with_reducible refine wpAny_BinOp ?_
  | ((with_reducible refine wpAny_Compare1 ?_ ?hm); (case hm => with_unfolding_all rfl))
  | ((with_reducible refine wpAny_isTrue_Compare1 ?_ ?hm); (case hm => with_unfolding_all rfl))
  | with_reducible refine wpAny_Constant_int ?_
  | with_reducible refine Constant_str ?_
  | with_reducible refine Constant_bool ?_
  | with_reducible refine Constant_none ?_
  | with_reducible refine Subscript_ ?_
  | with_reducible refine wpAny_truthy_bool ?_
  | ((with_reducible refine' nL (by assumption) (by assumption) (by assumption) ?hv ?_ ?hd); (case hd => decide); (case hv => first | assumption | with_unfolding_all rfl)))
noncomputable def body114 (P : Params) : List Stmt := match (fdAt (hd.heap_39 P) 114).body with | .stmts b => b | _ => []
theorem St.ch {g h h' : Heap} {L : Addr} {m mv} {T : List Addr} (S : St g L m mv h) (k : Ch T h h') (n : L ∉ T) (o : Off g T) (nm : ∀ p ∈ mv, p.1 ∉ T) : St g L m mv h' :=
  ⟨S.ns.at' fun ob e => k _ _ e n, k.le_off S.keep o, S.off, fun p hp => ⟨k _ _ (S.mv p hp).1 (nm p hp), (S.mv p hp).2⟩⟩
theorem updN_ne {m : Str → Option Value} {x y : Str} {v : Value} {r : Option Value} (h : m y = r) (n : y ≠ x := by decide) : updN m x v y = r := (if_neg n).trans h
theorem updN_eq {m : Str → Option Value} {x : Str} {v : Value} : updN m x v x = some v := if_pos rfl
section
variable {w : World} {A : Around} {E : Value → Shared → Prop} {s : Shared}

theorem isTrue_of_truthy {env : Env} {x : Str} {p : Pos} {whole : Sem Value} {prog : Program} {Q : Bool → Shared → Prop} (h : wpAny (model prog w) A whole (fun v s₁ => wpAny (model prog w) A (truthy v) Q E s₁) E s) :
    wpAny (model prog w) A (isTrue (.Name x p) env whole) Q E s := isTrue_plain h

theorem union_other_spec {n : Nat} {c T : Addr} {rs : Rw} {l : List It} {R : Result → Shared → Prop} (O : Ok A (n + 1)) (B : Base w s.heap) (Dc : Rows w true s.heap c rs) (hT : IsTup s.heap T (l.map (·.1)).toArray)
    (hl : ∀ p ∈ l, Oth w s.heap p.1 p.2) (hn : l.length ≤ 5)
    (h : ∀ v h' t', Res w s.heap h' c rs l v → Le s.heap h' → R (.ok (.ret v)) { s with heap := h', toks := t' }) :
    codeAny (model Pg w) A (.call (.ref 114) ⟨[.ref c, .ref T], []⟩) R s := by
  refine callFn O B (obj114 w.params) (code114 w.params) rfl (bind114 w.params (.ref c) (.ref T)) (cell114 w.params) (by kernel_rfl) (scope114 w.params) ?_
  intro env L h₀ he EE hL S₀ O'
  have k1 : env.kindOf (Str.ofString "self") = some .local := by subst he; rfl
  have k2 : env.kindOf (Str.ofString "others") = some .local := by subst he; rfl
  have k3 : env.kindOf (Str.ofString "size") = some .local := by subst he; rfl
  have k4 : env.kindOf (Str.ofString "self_is_empty") = some .local := by subst he; rfl
  have k5 : env.kindOf (Str.ofString "only_one") = some .local := by subst he; rfl
  have k6 : env.kindOf (Str.ofString "i") = some .local := by subst he; rfl
  have k7 : env.kindOf (Str.ofString "d") = some .local := by subst he; rfl
  have k8 : env.kindOf (Str.ofString "result") = some .local := by subst he; rfl
  have k9 : env.kindOf (Str.ofString "len") = some .globalImplicit := by subst he; rfl
  have k10 : env.kindOf (Str.ofString "range") = some .globalImplicit := by subst he; rfl
  have k11 : env.kindOf (Str.ofString "isinstance") = some .globalImplicit := by subst he; rfl
  have k12 : env.kindOf (Str.ofString "immutabledict") = some .globalImplicit := by subst he; rfl
  have k13 : env.kindOf (Str.ofString "dict") = some .globalImplicit := by subst he; rfl
  have ki : interactive env = false := by subst he; rfl
  clear he
  have hnew : ∀ b, s.heap.get? b = none → s.heap.get? b = none := fun _ e => e
  generalize hg : s.heap = g at *
  have hsz : (l.map (·.1)).toArray.size = l.length := by simp
  have at_ : ∀ {h' : Heap} {i : Nat} {p : It}, Le g h' → l[i]? = some p → ∀ {Q : Value → Shared → Prop} {E : Value → Shared → Prop} {A' : Around} {t' : Nat} {tk : Tok} {v sl : Expr}, (hs : subscripted sl false (.ref T) (.int i tk) = operate [.ref T, .int i tk] (getItem (.ref T) (.int i tk))) → Q p.1 { s with heap := h', toks := t' } →
      wpAny (model Pg w) A' (subscriptTail v sl (.ref T) (.int i tk)) Q E { s with heap := h', toks := t' } := fun {h' i p} k hi {Q E A' t' tk v sl} hs q => by
    have hil : i < l.length := List.getElem?_eq_some_iff.mp hi |>.1
    refine tail_any (hT.keeps k).typeIs F.slot_tuple_getitem.lookup ?_ hs
    exact getItem_tuple (hT.keeps k) (by omega) (by omega) (seqIndex_of (by omega) (by rw [hsz]; omega)) (by simp [hi]) q
  repeat walk_at "m_s"
  refine Call_Name1 (nB EE (S₀.base B) k9 (notMine_of "len" (by decide)) boots.1 (by decide) (cwB1 ?_)) rfl
  repeat walk_at "m_s"
  refine len_tuple (hT.keeps S₀.keep) (by rw [hsz]; omega) ?_
  rw [hsz]
  refine sL' EE S₀ k3 fun h₁ S₁ _ => ?_
  dsimp only
  repeat walk_at "m_s"
  refine eq_int ?_
  refine wpAny_truthy_bool ?_
  by_cases hz : l.length = 0
  · have hz' : l = [] := List.eq_nil_of_length_eq_zero hz
    subst hz'
    show wpAny _ _ (execs _ _) _ _ _
    repeat walk_at "m_s"
    dsimp only
    exact h _ _ _ (.inl ⟨rfl, rfl⟩) S₁.keep
  · have : (((l.length : Int)) == 0) = false := by simpa using hz
    rw [this]
    show wpAny _ _ (execs _ _) _ _ _
    repeat walk_at "m_s"
    dsimp only
    repeat walk_at "m_s"
    obtain ⟨ec, epc, DC, RC⟩ := id Dc
    have hrs : ((ec.size : Int) != 0) = !rs.isEmpty := by
      rw [RC.size]; cases rs <;> simp <;> omega
    -- the search, from here on
    have search : ∀ (m : Str → Option Value) (h₂ : Heap) (tk : Nat) (o : Value), St g L m [] h₂ → m (Str.ofString "self") = some (.ref c) → m (Str.ofString "others") = some (.ref T) → (∃ t, m (Str.ofString "size") = some (.int l.length t)) →
        m (Str.ofString "only_one") = some o → m (Str.ofString "self_is_empty") = some (.bool rs.isEmpty) → OneInv c rs [] o →
        wpAny (model Pg w) (A.deeper env) (execs ((body114 w.params).drop 3) env) (fun f s' => R (.ok (.ret (match f with | .ret v => v | _ => .none))) s') (fun _ _ => False) { s with heap := h₂, toks := tk } := by
      intro m h₂ tk o S mSelf mOthers ⟨tz, mSize⟩ mOne mEmp inv
      -- the joining, from here on
      have join : ∀ (m : Str → Option Value) (h₂ : Heap) (tk : Nat), St g L m [] h₂ → m (Str.ofString "self") = some (.ref c) → m (Str.ofString "others") = some (.ref T) → (∃ t, m (Str.ofString "size") = some (.int l.length t)) →
          m (Str.ofString "only_one") = some .none → m (Str.ofString "self_is_empty") = some (.bool rs.isEmpty) → Many rs l →
          wpAny (model Pg w) (A.deeper env) (execs ((body114 w.params).drop 4) env) (fun f s' => R (.ok (.ret (match f with | .ret v => v | _ => .none))) s') (fun _ _ => False) { s with heap := h₂, toks := tk } := by
        intro m h₂ tk S mSelf mOthers ⟨tz, mSize⟩ mOne mEmp hmany
        refine wpAny_execs_cons ?_
        repeat walk_at "m_s"
        refine wpAny_is_plain rfl ?_
        refine wpAny_truthy_bool ?_
        show wpAny _ _ (execs _ _) _ _ _
        repeat walk_at "m_s"
        refine wpAny_isNot_plain rfl ?_
        refine wpAny_truthy_bool ?_
        show wpAny _ _ (execs _ _) _ _ _
        refine wpAny_execs_nil ?_
        dsimp only
        refine wpAny_execs_nil ?_
        refine wpAny_execs_cons ?_
        repeat walk_at "m_s"
        refine Call_Name0 (nK EE (S.base B) k12 (gName w.params).2.2.2.2.2.1 (cwK0 (w := w) (S.base B) (keepF_of 145 (by decide)) ?_) (by decide))
        refine call_im_0 (S.base B) fun r dx h₃ e1 e2 e3 e4 e5 e6 e7 => ?_
        have S₃ : St g L m [] h₃ := S.le e7
        have hS₂ : Le g h₂ := S.keep
        have n1 : h₂.get? r = none := get_none_ge e5
        have n2 : h₂.get? dx = none := get_none_ge e4
        have S₃' : St g L m [(r, imObj dx), (dx, noDict)] h₃ := (S₃.add e2 (S.ne n2) (S.none n2)).add e1 (S.ne n1) (S.none n1)
        have hgn : g.get? r = none := S.none n1
        -- one more joined
        have upd : ∀ {im : Bool} {a : Addr} {rx ra : Rw} {es : Array DictEntry} {ep : Nat} {m : Str → Option Value} {h : Heap} {t : Nat} {Q E' : Value → Shared → Prop}, St g L m [(r, ⟨.ref 145, some dx, .dict es ep, #[]⟩), (dx, noDict)] h → RowsIn w es ra → Rows w im g a rx →
            (∀ es' ep' h' t', St g L m [(r, ⟨.ref 145, some dx, .dict es' ep', #[]⟩), (dx, noDict)] h' → RowsIn w es' (mergeR ra rx) → Ch [r] h h' → Q .none { s with heap := h', toks := t' }) →
            wpAny (model Pg w) (A.deeper env) (call (.builtin "dict.update") ([] ++ [.ref r, .ref a])) Q E' { s with heap := h, toks := t } := by
          intro im a rx ra es ep m h t Q E' S Ra ⟨ea, epa, Da, Rx⟩ q
          have o1 := (S.mv _ (.head _)).1
          have o2 := (S.mv _ (.tail _ (.head _))).1
          refine dict_update_D (s := { s with heap := h, toks := t }) (S.base B) (imd := true) ⟨e6, some dx, o1, dx, rfl, e3, o2⟩ Ra hgn S.keep Da Rx fun h' es' ep' t' D' k1 R' k2 => ?_
          have c : Ch [r] h h' := fun b o e n => k2 b o e (by simpa using n)
          exact q es' ep' h' t' (S.upd (pre := []) c (k1 _ o1) (fun p hp => by rcases List.mem_singleton.mp hp with rfl; exact e3)) R' c
        refine sL' EE S₃' k8 fun h₄ S₄ c₄ => ?_
        dsimp only
        have mR : updN m (Str.ofString "result") (.ref r) (Str.ofString "result") = some (.ref r) := updN_eq
        have mSelf₄ := updN_ne (x := Str.ofString "result") (v := .ref r) mSelf
        have mOthers₄ := updN_ne (x := Str.ofString "result") (v := .ref r) mOthers
        have mSize₄ := updN_ne (x := Str.ofString "result") (v := .ref r) mSize
        have mEmp₄ := updN_ne (x := Str.ofString "result") (v := .ref r) mEmp
        generalize updN m (Str.ofString "result") (.ref r) = m₄ at *
        -- the second loop, from here on
        have last : ∀ (es : Array DictEntry) (ep : Nat) (h : Heap) (tk : Nat), St g L m₄ [(r, ⟨.ref 145, some dx, .dict es ep, #[]⟩), (dx, noDict)] h → RowsIn w es rs →
            wpAny (model Pg w) (A.deeper env) (execs ((body114 w.params).drop 7) env) (fun f s' => R (.ok (.ret (match f with | .ret v => v | _ => .none))) s') (fun _ _ => False) { s with heap := h, toks := tk } := by
          intro es ep h₅ tk S Ra
          refine wpAny_execs_cons ?_
          refine for_walk (range_it EE (S.base B) k10 ?_)
          refine nL EE S k3 mSize₄ ⟨_, _, rfl, by omega, by omega, fun h₆ I tk₃ k₃ nI lI hit => ?_⟩
          have IL : I ≠ L := S.ne nI
          have gI : g.get? I = none := S.none nI
          have Ir : r ≠ I := S.neMut nI _ (.head _)
          have Ix : dx ≠ I := S.neMut nI _ (.tail _ (.head _))
          refine ⟨I, [I], [I], l.length, _, _, fun i h => ∃ m es ep, St g L m [(r, ⟨.ref 145, some dx, .dict es ep, #[]⟩), (dx, noDict)] h ∧ m (Str.ofString "others") = some (.ref T) ∧ m (Str.ofString "result") = some (.ref r) ∧ RowsIn w es (mergeIts rs (l.take i)), rfl,
            ⟨Walks.range O'.handled I 0 1 l.length, fun _ => rfl, by simpa using hit, ?_, ?_, ?_, ?_⟩⟩
          · exact ⟨m₄, es, ep, S.le k₃, mOthers₄, mR, by simpa [mergeIts] using Ra⟩
          · rintro i h h' ⟨m, es, ep, S, r⟩ hc
            exact ⟨m, es, ep, S.ch hc (by simpa using Ne.symm IL) (by simpa [Off] using gI) (fun p hp => by
              rcases List.mem_cons.mp hp with rfl | hp
              · simpa using Ir
              · rcases List.mem_singleton.mp hp with rfl; simpa using Ix), r⟩
          · rintro i v h tk E' hi ⟨t, rfl⟩ ⟨m, es, ep, S, mOthers, mRes, Ra⟩ hst
            have ei : (0 : Int) + (i : Int) * 1 = (i : Int) := by omega
            rw [ei]
            obtain ⟨p, hp⟩ : ∃ p, l[i]? = some p := ⟨_, List.getElem?_eq_getElem hi⟩
            have hpl := hl p (List.mem_of_getElem? hp)
            refine wpAny_assign_Name (sL' EE S k6 fun h₁ S₁ c₁ => ?_)
            have m1 := updN_ne (x := Str.ofString "i") (v := .int i t) mOthers
            repeat walk_at "m_s"
            refine at_ S₁.keep hp rfl ?_
            refine sL' EE S₁ k7 fun h₂ S₂ c₂ => ?_
            dsimp only
            have fpk : ∀ {h'}, Ch [r] h₂ h' → ∀ b ∈ [I], ∀ o, h.get? b = some o → h'.get? b = some o := fun {h'} c b hb o e => by
              have e1 : b ∉ [L] := by rw [List.mem_singleton.mp hb]; simpa using IL
              have e2 : b ∉ [r] := by rw [List.mem_singleton.mp hb]; simpa using Ne.symm Ir
              exact c _ _ (c₂ _ _ (c₁ _ _ e e1) e1) e2
            have nd : updN (updN m (Str.ofString "i") (.int i t)) (Str.ofString "d") p.1 (Str.ofString "d") = some p.1 := updN_eq
            have nO : ∀ {x : Str} {r : Option Value}, m x = r → x ≠ Str.ofString "i" → x ≠ Str.ofString "d" → updN (updN m (Str.ofString "i") (.int i t)) (Str.ofString "d") p.1 x = r := fun e n1 n2 => updN_ne (updN_ne e n1) n2
            have nRes := nO mRes (by decide) (by decide)
            have nOthers := nO mOthers (by decide) (by decide)
            generalize updN (updN m (Str.ofString "i") (.int i t)) (Str.ofString "d") p.1 = m₂ at *
            refine wpAny_execs_cons ?_
            refine wpAny_If ?_
            refine isTrue_not (isTrue_of_truthy ?_)
            repeat walk_at "m_s"
            refine truthy_oth (S₂.base B) (hpl.keeps S₂.keep) fun tk₂ => ?_
            cases hf : filledIt p with
            | false =>
              show wpAny _ _ (execs _ _) _ _ _
              refine wpAny_execs_cons (wpAny_Continue ?_)
              refine ⟨h₂, _, rfl, ⟨m₂, es, ep, S₂, nOthers, nRes, ?_⟩, fpk (.refl _ _)⟩
              rw [mergeIts_skip hp hf]; exact Ra
            | true =>
              show wpAny _ _ (execs _ _) _ _ _
              refine wpAny_execs_nil ?_
              dsimp only
              obtain ⟨ap, imp, rsp, ep1, ep2, Rp⟩ : ∃ a im rs', p.1 = .ref a ∧ p.2 = some (im, rs') ∧ Rows w im g a rs' := by
                rcases hpl with ⟨_, z⟩ | ⟨im, a, rs', z, z', r⟩
                · unfold filledIt at hf; rw [z] at hf; cases hf
                · exact ⟨a, im, rs', z, z', r⟩
              rw [ep1] at nd
              obtain ⟨eap, epap, Dp, _⟩ := id Rp
              have htk : mergeIts rs (l.take (i + 1)) = mergeR (mergeIts rs (l.take i)) rsp := by rw [mergeIts_take hp, ep2]
              refine wpAny_execs_cons ?_
              refine wpAny_If ?_
              refine isTrue_plain ?_
              refine Call_Name2 (nB EE (S₂.base B) k11 (notMine_of "isinstance" (by decide)) boots.2.2.2.2.1 (by decide) (cwB2 ?_)) rfl
              repeat walk_at "m_s"
              refine nB EE (S₂.base B) k13 (notMine_of "dict" (by decide)) boots.2.2.2.1 (by decide) ?_
              refine isinst_dict (S₂.base B) (Dp.keeps S₂.keep) ?_
              refine wpAny_truthy_bool ?_
              show wpAny _ _ (execs _ _) _ _ _
              refine wpAny_execs_cons (wpAny_Expr_any (hi := ki) (mCall2 (nB EE (S₂.base B) k13 (notMine_of "dict" (by decide)) boots.2.2.2.1 (by decide) (method_dict rfl find_upd (cwB2 ?_)))))
              repeat walk_at "m_s"
              refine upd S₂ Ra Rp fun es' ep' h' t' S' R' c' => ?_
              refine wpAny_execs_nil (wpAny_execs_nil ?_)
              exact ⟨h', _, rfl, ⟨m₂, es', ep', S', nOthers, nRes, by rw [htk]; exact R'⟩, fpk c'⟩
          · rintro h₇ tk ⟨m, es, ep, S, mOthers, mRes, Ra⟩
            rw [List.take_length] at Ra
            refine wpAny_execs_cons (wpAny_Return_some ?_)
            repeat walk_at "m_s"
            have o1 := (S.mv _ (.head _)).1
            have o2 := (S.mv _ (.tail _ (.head _))).1
            exact h _ _ _ (.inr (.inr ⟨hmany, r, rfl, (NewR.of (h₀ := h₂) (im := true) (dd := some dx) e6 o1 e5 ⟨dx, rfl, e3, e4, o2⟩ Ra).older fun b x e => ⟨x, hS₂ _ _ e⟩⟩)) S.keep
        refine wpAny_execs_cons ?_
        refine wpAny_If ?_
        refine isTrue_not (isTrue_of_truthy ?_)
        repeat walk_at "m_s"
        cases hre : rs.isEmpty with
        | true =>
          show wpAny _ _ (execs _ _) _ _ _
          refine wpAny_execs_nil ?_
          have : rs = [] := by simpa using hre
          exact last _ _ _ _ S₄ (this ▸ .nil w)
        | false =>
          show wpAny _ _ (execs _ _) _ _ _
          refine wpAny_execs_cons (wpAny_Expr_any (hi := ki) (mCall2 (nB EE (S₄.base B) k13 (notMine_of "dict" (by decide)) boots.2.2.2.1 (by decide) (method_dict rfl find_upd (cwB2 ?_)))))
          repeat walk_at "m_s"
          refine upd S₄ (.nil w) Dc fun es' ep' h' t' S' R' c' => ?_
          rw [mergeR_of_nil RC.ok] at R'
          refine wpAny_execs_nil ?_
          exact last _ _ _ _ S' R'
      refine wpAny_execs_cons ?_
      refine for_walk (range_it EE (S.base B) k10 ?_)
      refine nL EE S k3 mSize ⟨_, _, rfl, by omega, by omega, fun h₃ I tk₃ k₃ nI lI hit => ?_⟩
      have IL : I ≠ L := S.ne nI
      have gI : g.get? I = none := S.none nI
      refine ⟨I, [I], [I], l.length, _, _, fun i h => ∃ m o, St g L m [] h ∧ m (Str.ofString "self") = some (.ref c) ∧ m (Str.ofString "others") = some (.ref T) ∧ (∃ t, m (Str.ofString "size") = some (.int l.length t)) ∧
        m (Str.ofString "only_one") = some o ∧ m (Str.ofString "self_is_empty") = some (.bool rs.isEmpty) ∧ OneInv c rs (l.take i) o, rfl, ⟨Walks.range O'.handled I 0 1 l.length, fun _ => rfl, by simpa using hit, ?_, ?_, ?_, ?_⟩⟩
      · exact ⟨m, o, S.le k₃, mSelf, mOthers, ⟨tz, mSize⟩, mOne, mEmp, by simpa using inv⟩
      · rintro i h h' ⟨m, o, S, r⟩ hc
        exact ⟨m, o, S.ch hc (by simpa using Ne.symm IL) (by simpa [Off] using gI) (fun p q => nomatch q), r⟩
      · rintro i v h tk E' hi ⟨t, rfl⟩ ⟨m, o, S, mSelf, mOthers, ⟨tz, mSize⟩, mOne, mEmp, inv⟩ hst
        have ei : (0 : Int) + (i : Int) * 1 = (i : Int) := by omega
        rw [ei]
        obtain ⟨p, hp⟩ : ∃ p, l[i]? = some p := ⟨_, List.getElem?_eq_getElem hi⟩
        have hpl := hl p (List.mem_of_getElem? hp)
        refine wpAny_assign_Name (sL' EE S k6 fun h₁ S₁ c₁ => ?_)
        have m1 := updN_ne (x := Str.ofString "i") (v := .int i t) mOthers
        repeat walk_at "m_s"
        refine at_ S₁.keep hp rfl ?_
        refine sL' EE S₁ k7 fun h₂ S₂ c₂ => ?_
        dsimp only
        have fpk : ∀ {h'}, Ch [L] h₂ h' → ∀ b ∈ [I], ∀ o, h.get? b = some o → h'.get? b = some o := fun {h'} c b hb o e => by
          have : b ∉ [L] := by rw [List.mem_singleton.mp hb]; simpa using IL
          exact c _ _ (c₂ _ _ (c₁ _ _ e this) this) this
        have nd : updN (updN m (Str.ofString "i") (.int i t)) (Str.ofString "d") p.1 (Str.ofString "d") = some p.1 := updN_eq
        have nO : ∀ {x : Str} {r : Option Value}, m x = r → x ≠ Str.ofString "i" → x ≠ Str.ofString "d" → updN (updN m (Str.ofString "i") (.int i t)) (Str.ofString "d") p.1 x = r := fun e n1 n2 => updN_ne (updN_ne e n1) n2
        have nOne := nO mOne (by decide) (by decide)
        have nSelf := nO mSelf (by decide) (by decide)
        have nOthers := nO mOthers (by decide) (by decide)
        have nSize := nO mSize (by decide) (by decide)
        have nEmp := nO mEmp (by decide) (by decide)
        generalize updN (updN m (Str.ofString "i") (.int i t)) (Str.ofString "d") p.1 = m₂ at *
        repeat walk_at "m_s"
        refine isTrue_not (isTrue_of_truthy ?_)
        repeat walk_at "m_s"
        refine truthy_oth (S₂.base B) (hpl.keeps S₂.keep) fun tk₂ => ?_
        have ftk := filter_take_succ hp
        cases hf : filledIt p with
        | false =>
          rw [hf] at ftk
          have ftk' : (l.take (i + 1)).filter filledIt = (l.take i).filter filledIt := by simpa using ftk
          show wpAny _ _ (execs _ _) _ _ _
          refine wpAny_execs_cons (wpAny_Continue ?_)
          refine ⟨h₂, _, rfl, ⟨m₂, o, S₂, nSelf, nOthers, ⟨tz, nSize⟩, nOne, nEmp, ?_⟩, fpk (.refl _ _)⟩
          unfold OneInv at inv ⊢
          rw [ftk']; exact inv
        | true =>
          rw [hf, if_pos rfl] at ftk
          show wpAny _ _ (execs _ _) _ _ _
          repeat walk_at "m_s"
          dsimp only
          -- not the search's last: on
          have go : ∀ (tk : Nat), (o = .bool false ∧ imIt p = true) → wpAny (model Pg w) (A.deeper env) (storeName env (Str.ofString "only_one") p.1) (fun _ s₃ => ∃ h' tk', s₃ = { s with heap := h', toks := tk' } ∧ (∃ m o, St g L m [] h' ∧ m (Str.ofString "self") = some (.ref c) ∧ m (Str.ofString "others") = some (.ref T) ∧ (∃ t, m (Str.ofString "size") = some (.int l.length t)) ∧
              m (Str.ofString "only_one") = some o ∧ m (Str.ofString "self_is_empty") = some (.bool rs.isEmpty) ∧ OneInv c rs (l.take (i + 1)) o) ∧ ∀ b ∈ [I], ∀ o, h.get? b = some o → h'.get? b = some o) E' { s with heap := h₂, toks := tk } := by
            rintro tk ⟨rfl, him⟩
            refine sL' EE S₂ k5 fun h₃ S₃ c₃ => ⟨h₃, _, rfl, ⟨_, p.1, S₃, updN_ne nSelf, updN_ne nOthers, ⟨tz, updN_ne nSize⟩, updN_eq, updN_ne nEmp, ?_⟩, fpk c₃⟩
            rcases inv with ⟨_, _, q⟩ | ⟨a, b, _⟩ | ⟨a, q, b, q', q''⟩
            · cases q
            · exact .inr (.inr ⟨a, p, by rw [ftk, b]; rfl, him, rfl⟩)
            · exfalso
              have hq : q ∈ (l.take i).filter filledIt := by rw [b]; exact .head _
              rcases hl q (List.mem_of_mem_take (List.mem_filter.mp hq).1) with ⟨z, _⟩ | ⟨_, _, _, z, _⟩ <;> rw [z] at q'' <;> cases q''
          have stop : ∀ (tk : Nat), ¬ (o = .bool false ∧ imIt p = true) → wpAny (model Pg w) (A.deeper env) (storeName env (Str.ofString "only_one") .none) (fun _ s₃ => wpAny (model Pg w) (A.deeper env) (execs ((body114 w.params).drop 4) env) (fun f s' => R (.ok (.ret (match f with | .ret v => v | _ => .none))) s') (fun _ _ => False) s₃) E' { s with heap := h₂, toks := tk } := by
            intro tk hno
            refine sL' EE S₂ k5 fun h₃ S₃ c₃ => join _ _ _ S₃ (updN_ne nSelf) (updN_ne nOthers) ⟨tz, updN_ne nSize⟩ updN_eq (updN_ne nEmp) (Many.of (i := i + 1) ?_ ?_)
            · refine ⟨by rw [ftk]; simp, fun ⟨hr, p', e, hi'⟩ => ?_⟩
              rw [ftk] at e
              rcases inv with ⟨a, _, q⟩ | ⟨a, b, q⟩ | ⟨a, q, b, q', q''⟩
              · exact a hr
              · rw [b] at e; simp only [List.nil_append, List.cons.injEq, and_true] at e; exact hno ⟨q, e ▸ hi'⟩
              · rw [b] at e; simp at e
            · intro hr p' e
              rw [ftk] at e
              rcases inv with ⟨a, _, q⟩ | ⟨a, b, q⟩ | ⟨a, q, b, q', q''⟩
              · exact absurd hr a
              · rw [b] at e; simp only [List.nil_append, List.cons.injEq, and_true] at e
                cases hi' : imIt p' with
                | false => rfl
                | true => exact absurd ⟨q, e ▸ hi'⟩ hno
              · rw [b] at e; simp at e
          have pr : ∃ a im rs', p.1 = .ref a ∧ p.2 = some (im, rs') ∧ Rows w im g a rs' := by
            rcases hpl with ⟨_, z⟩ | ⟨im, a, rs', z, z', r⟩
            · unfold filledIt at hf; rw [z] at hf; cases hf
            · exact ⟨a, im, rs', z, z', r⟩
          obtain ⟨ap, imp, rsp, ep1, ep2, ep, epp, Dp, Rp⟩ := pr
          have him : imIt p = imp := by unfold imIt; rw [ep2]
          rw [ep1] at nd go
          have oP : plainIs o (.bool false) = true := by
            rcases inv with ⟨_, _, q⟩ | ⟨_, _, q⟩ | ⟨_, q, b, _, q''⟩
            · rw [q]; rfl
            · rw [q]; rfl
            · have hq : q ∈ (l.take i).filter filledIt := by rw [b]; exact .head _
              rcases hl q (List.mem_of_mem_take (List.mem_filter.mp hq).1) with ⟨z, _⟩ | ⟨_, _, _, z, _⟩ <;> rw [z] at q'' <;> rw [q''] <;> rfl
          refine isTrue_and ?_
          repeat walk_at "m_s"
          refine wpAny_is_plain oP ?_
          refine wpAny_truthy_bool ?_
          by_cases hob : o = .bool false
          · subst hob
            show wpAny _ _ (isTrue _ _ _) _ _ _
            refine isTrue_and ?_
            refine isTrue_plain ?_
            refine Call_Name2 (nB EE (S₂.base B) k11 (notMine_of "isinstance" (by decide)) boots.2.2.2.2.1 (by decide) (cwB2 ?_)) rfl
            repeat walk_at "m_s"
            refine nK EE (S₂.base B) k12 (gName w.params).2.2.2.2.2.1 ?_ (by decide)
            refine isinst_im (S₂.base B) (Dp.keeps S₂.keep) fun tk₄ => ?_
            refine wpAny_truthy_bool ?_
            cases imp with
            | true =>
              show wpAny _ _ (isTrue _ _ _) _ _ _
              refine isTrue_and_nil ?_
              show wpAny _ _ (execs _ _) _ _ _
              repeat walk_at "m_s"
              refine wpAny_mono (go _ ⟨rfl, him⟩) (fun _ s' z => wpAny_execs_nil (wpAny_execs_nil z)) fun _ _ z => z
            | false =>
              show wpAny _ _ (execs _ _) _ _ _
              repeat walk_at "m_s"
              refine wpAny_mono (stop _ fun z => by rw [him] at z; cases z.2) (fun _ s' z => wpAny_execs_cons (wpAny_Break z)) fun _ _ z => z
          · rw [beq_eq_false_iff_ne.mpr hob]
            show wpAny _ _ (execs _ _) _ _ _
            repeat walk_at "m_s"
            refine wpAny_mono (stop _ fun z => hob z.1) (fun _ s' z => wpAny_execs_cons (wpAny_Break z)) fun _ _ z => z
      · rintro h₄ tk ⟨m, o, S, mSelf, mOthers, mSize, mOne, mEmp, inv⟩
        rw [List.take_length] at inv
        dsimp only
        repeat walk_at "m_s"
        rcases inv with ⟨a, b, rfl⟩ | ⟨a, b, rfl⟩ | ⟨a, p, b, c', rfl⟩
        · refine wpAny_is_plain rfl ?_
          refine wpAny_truthy_bool ?_
          show wpAny _ _ (execs _ _) _ _ _
          repeat walk_at "m_s"
          refine wpAny_isNot_plain rfl ?_
          refine wpAny_truthy_bool ?_
          show wpAny _ _ (execs _ _) _ _ _
          repeat walk_at "m_s"
          exact h _ _ _ (.inl ⟨b, rfl⟩) S.keep
        · refine wpAny_is_plain rfl ?_
          refine wpAny_truthy_bool ?_
          show wpAny _ _ (execs _ _) _ _ _
          repeat walk_at "m_s"
          exact h _ _ _ (.inl ⟨b, rfl⟩) S.keep
        · have hq : p ∈ l.filter filledIt := by rw [b]; exact .head _
          obtain ⟨ap, hap⟩ : ∃ a, p.1 = .ref a := by
            rcases hl p (List.mem_filter.mp hq).1 with ⟨_, z⟩ | ⟨_, _, _, z, _⟩
            · have := (List.mem_filter.mp hq).2; unfold filledIt at this; rw [z] at this; cases this
            · exact ⟨_, z⟩
          rw [hap] at mOne ⊢
          refine wpAny_is_plain rfl ?_
          refine wpAny_truthy_bool ?_
          show wpAny _ _ (execs _ _) _ _ _
          repeat walk_at "m_s"
          refine wpAny_isNot_plain rfl ?_
          refine wpAny_truthy_bool ?_
          show wpAny _ _ (execs _ _) _ _ _
          repeat walk_at "m_s"
          exact h _ _ _ (.inr (.inl ⟨a, p, b, c', hap.symm⟩)) S.keep
    refine isTrue_of_truthy ?_
    repeat walk_at "m_s"
    refine truthy_D (S₁.base B) (DC.keeps S₁.keep) (by have := RC.size_le; omega) fun t' => ?_
    rw [hrs]
    cases hre : rs.isEmpty with
    | false =>
      show wpAny _ _ (execs _ _) _ _ _
      repeat walk_at "m_s"
      refine sL' EE S₁ k4 fun h₂ S₂ _ => ?_
      dsimp only
      repeat walk_at "m_s"
      refine sL' EE S₂ k5 fun h₃ S₃ _ => ?_
      dsimp only
      refine wpAny_execs_nil ?_
      refine search _ _ _ _ S₃ rfl rfl ⟨_, rfl⟩ rfl (by rw [hre]; rfl) (.inl ⟨(by intro q; subst q; cases hre), rfl, rfl⟩)
    | true =>
      show wpAny _ _ (execs _ _) _ _ _
      repeat walk_at "m_s"
      refine sL' EE S₁ k5 fun h₂ S₂ _ => ?_
      dsimp only
      repeat walk_at "m_s"
      refine sL' EE S₂ k4 fun h₃ S₃ _ => ?_
      dsimp only
      refine wpAny_execs_nil ?_
      refine search _ _ _ _ S₃ rfl rfl ⟨_, rfl⟩ rfl (by rw [hre]; rfl) (.inr (.inl ⟨(by simpa using hre), rfl, rfl⟩))
end
end Mine

set_option Elab.async false
set_option maxRecDepth 100000
set_option maxHeartbeats 8000000
set_option linter.unusedVariables false
open PySem PySem.W PyProof.Rows PySem.Calls
namespace Mine

theorem code107 (P : Params) : codeIn (hd.heap_39 P) (fdAt (hd.heap_39 P) 107).code (fdAt (hd.heap_39 P) 107).qualname = true := by kernel_rfl
theorem obj107 (P : Params) : List.lookup 107 (hd.heap_39 P) = some ⟨.type "function", none, .func (fdAt (hd.heap_39 P) 107), #[]⟩ := by kernel_rfl
theorem cell107 (P : Params) : ((fdAt (hd.heap_39 P) 107).scope.names.all fun x => x.2 != .cell) = true := by kernel_rfl
theorem scope107 (P : Params) : ((fdAt (hd.heap_39 P) 107).scope.isCoroutine, (fdAt (hd.heap_39 P) 107).scope.isGenerator, (fdAt (hd.heap_39 P) 107).scope.kind, (fdAt (hd.heap_39 P) 107).globals, (fdAt (hd.heap_39 P) 107).builtins) = (false, false, .function, mainGlobals, builtinsNs) := by kernel_rfl
theorem code100 (P : Params) : codeIn (hd.heap_39 P) (fdAt (hd.heap_39 P) 100).code (fdAt (hd.heap_39 P) 100).qualname = true := by kernel_rfl
theorem obj100 (P : Params) : List.lookup 100 (hd.heap_39 P) = some ⟨.type "function", none, .func (fdAt (hd.heap_39 P) 100), #[]⟩ := by kernel_rfl
theorem cell100 (P : Params) : ((fdAt (hd.heap_39 P) 100).scope.names.all fun x => x.2 != .cell) = true := by kernel_rfl
theorem scope100 (P : Params) : ((fdAt (hd.heap_39 P) 100).scope.isCoroutine, (fdAt (hd.heap_39 P) 100).scope.isGenerator, (fdAt (hd.heap_39 P) 100).scope.kind, (fdAt (hd.heap_39 P) 100).globals, (fdAt (hd.heap_39 P) 100).builtins) = (false, false, .function, mainGlobals, builtinsNs) := by kernel_rfl
theorem loc107 (P : Params) (v t : Value) : (([(Str.ofString "self", v), (Str.ofString "dicts", t)] : List (Str × Value)).all fun x => (fdAt (hd.heap_39 P) 107).scope.names.lookup x.1 == some .local) = true := by kernel_rfl
theorem bind107 (P : Params) (v : Value) (vs : List Value) (h : vs.length ≤ 5) : bindArgs (fdAt (hd.heap_39 P) 107) ⟨v :: vs, []⟩ = newTuple vs >>= fun t => pure [(Str.ofString "self", v), (Str.ofString "dicts", t)] := by
  rcases vs with _ | ⟨a, _ | ⟨b, _ | ⟨c, _ | ⟨d, _ | ⟨e, _ | ⟨f, r⟩⟩⟩⟩⟩⟩
  · kernel_rfl
  · kernel_rfl
  · kernel_rfl
  · kernel_rfl
  · kernel_rfl
  · kernel_rfl
  · simp at h
theorem loc100 (P : Params) (v t : Value) : (([(Str.ofString "self", v), (Str.ofString "dicts", t)] : List (Str × Value)).all fun x => (fdAt (hd.heap_39 P) 100).scope.names.lookup x.1 == some .local) = true := by kernel_rfl
theorem bind100 (P : Params) (v : Value) (vs : List Value) (h : vs.length ≤ 5) : bindArgs (fdAt (hd.heap_39 P) 100) ⟨v :: vs, []⟩ = newTuple vs >>= fun t => pure [(Str.ofString "self", v), (Str.ofString "dicts", t)] := by
  rcases vs with _ | ⟨a, _ | ⟨b, _ | ⟨c, _ | ⟨d, _ | ⟨e, _ | ⟨f, r⟩⟩⟩⟩⟩⟩
  · kernel_rfl
  · kernel_rfl
  · kernel_rfl
  · kernel_rfl
  · kernel_rfl
  · kernel_rfl
  · simp at h
theorem find_uo (P : Params) : findIn (hd.heap_39 P) (clsV true) "_union_other" = some (some (.ref 114)) := by kernel_rfl
theorem fns (P : Params) : ([114, 121, 107, 100, 56, 64, 71, 79, 86, 35, 42, 49, 128, 93].all fun a => typeIn (hd.heap_39 P) (.ref a) == some (.type "function") && keepIn (hd.heap_39 P) (.ref a) && fnIn (hd.heap_39 P) a) = true := by kernel_rfl
theorem fn_of {w : World} (a : Nat) (h : a ∈ [114, 121, 107, 100, 56, 64, 71, 79, 86, 35, 42, 49, 128, 93]) : typeIn (KK w) (.ref a) = some (.type "function") ∧ keepIn (KK w) (.ref a) = true ∧ fnIn (KK w) a = true := by
  have := List.all_eq_true.mp (fns w.params) a h
  simp only [Bool.and_eq_true, beq_iff_eq] at this
  exact ⟨this.1.1, this.1.2, this.2⟩

section
variable {w : World} {A : Around} {E : Value → Shared → Prop} {s : Shared}
theorem Res.older {h₀ h₁ h' : Heap} {c : Addr} {rs : Rw} {l : List It} {v : Value} (r : Res w h₁ h' c rs l v) (k : Le h₀ h₁) : Res w h₀ h' c rs l v :=
  r.imp id fun r => r.imp id fun ⟨a, b, c, d⟩ => ⟨a, b, c, d.older fun b x e => ⟨x, k _ _ e⟩⟩

theorem merge_spec {n : Nat} {c : Addr} {rs : Rw} {l : List It} {R : Result → Shared → Prop} (O : Ok A (n + 2)) (B : Base w s.heap) (Dc : Rows w true s.heap c rs) (hl : ∀ p ∈ l, Oth w s.heap p.1 p.2) (hn : l.length ≤ 5)
    (h : ∀ v h' t', Res w s.heap h' c rs l v → Le s.heap h' → R (.ok (.ret v)) { s with heap := h', toks := t' }) :
    codeAny (model Pg w) A (.call (.ref 107) ⟨.ref c :: l.map (·.1), []⟩) R s := by
  have hsz : (l.map (·.1)).length ≤ sizeLine := by rw [List.length_map, sizeLine_eq]; omega
  have hb := bind107 w.params (.ref c) (l.map (·.1)) (by simpa using hn)
  have hloc := loc107 w.params (.ref c)
  have ho := obj107 w.params
  have hc := code107 w.params
  have hce := cell107 w.params
  have hs := scope107 w.params
  have hbd : (fdAt (KK w) 107).body = .stmts _ := rfl
  refine callFnV (fd := fdAt (KK w) 107) (binds := fun t => [(Str.ofString "self", .ref c), (Str.ofString "dicts", t)]) O B ho hc hbd hb hsz hce hloc hs ?_
  intro env L h₀ T tk he EE hL hTn hTL hT S₀ O'
  have k1 : env.kindOf (Str.ofString "self") = some .local := by subst he; rfl
  have k2 : env.kindOf (Str.ofString "dicts") = some .local := by subst he; rfl
  clear he
  have B₀ := S₀.base B
  obtain ⟨es, ep, D, _⟩ := id (Dc.keeps S₀.keep)
  refine wpAny_execs_cons (wpAny_Return_some (mCall1 (nL EE S₀ k1 rfl (method_D B₀ D (find_uo w.params) (fn_of 114 (by decide)).1 (by decide) (cwK1 (w := w) (fn_of 114 (by decide)).2.1 (nL EE S₀ k2 rfl ⟨B₀, wpAny_call ?_⟩))))))
  refine union_other_spec O' B₀ (Dc.keeps S₀.keep) hT (fun p hp => (hl p hp).keeps S₀.keep) hn fun v h' t' r k => ?_
  exact h v h' t' (r.older S₀.keep) fun b o e => k _ _ (S₀.keep _ _ e)
theorem union_spec {n : Nat} {c : Addr} {rs : Rw} {l : List It} {R : Result → Shared → Prop} (O : Ok A (n + 2)) (B : Base w s.heap) (Dc : Rows w true s.heap c rs) (hl : ∀ p ∈ l, Oth w s.heap p.1 p.2) (hn : l.length ≤ 5)
    (h : ∀ v h' t', Res w s.heap h' c rs l v → Le s.heap h' → R (.ok (.ret v)) { s with heap := h', toks := t' }) :
    codeAny (model Pg w) A (.call (.ref 100) ⟨.ref c :: l.map (·.1), []⟩) R s := by
  have hsz : (l.map (·.1)).length ≤ sizeLine := by rw [List.length_map, sizeLine_eq]; omega
  have hb := bind100 w.params (.ref c) (l.map (·.1)) (by simpa using hn)
  have hloc := loc100 w.params (.ref c)
  have ho := obj100 w.params
  have hc := code100 w.params
  have hce := cell100 w.params
  have hs := scope100 w.params
  have hbd : (fdAt (KK w) 100).body = .stmts _ := rfl
  refine callFnV (fd := fdAt (KK w) 100) (binds := fun t => [(Str.ofString "self", .ref c), (Str.ofString "dicts", t)]) O B ho hc hbd hb hsz hce hloc hs ?_
  intro env L h₀ T tk he EE hL hTn hTL hT S₀ O'
  have k1 : env.kindOf (Str.ofString "self") = some .local := by subst he; rfl
  have k2 : env.kindOf (Str.ofString "dicts") = some .local := by subst he; rfl
  clear he
  have B₀ := S₀.base B
  obtain ⟨es, ep, D, _⟩ := id (Dc.keeps S₀.keep)
  refine wpAny_execs_cons (wpAny_Return_some (mCall1 (nL EE S₀ k1 rfl (method_D B₀ D (find_uo w.params) (fn_of 114 (by decide)).1 (by decide) (cwK1 (w := w) (fn_of 114 (by decide)).2.1 (nL EE S₀ k2 rfl ⟨B₀, wpAny_call ?_⟩))))))
  refine union_other_spec O' B₀ (Dc.keeps S₀.keep) hT (fun p hp => (hl p hp).keeps S₀.keep) hn fun v h' t' r k => ?_
  exact h v h' t' (r.older S₀.keep) fun b o e => k _ _ (S₀.keep _ _ e)

/-- x.merge_with(*y) and x.union(*y) -/
theorem eval_join {n : Nat} {f : Addr} {name x y : Str} {env : Env} {g : Heap} {L c D : Addr} {m : Str → Option Value} {mv : List (Addr × Obj)} {p1 p2 p3 apos pos : Pos} {rs : Rw} {l : List It} {Q : Value → Shared → Prop}
    (hf : findObj (KK w) 145 (some noDict) name = some (.bind (.builtin "function.__get__") (.ref f))) (hft : typeIn (KK w) (.ref f) = some (.type "function")) (hfn : fnIn (KK w) f = true)
    (spec : ∀ {s : Shared} {R : Result → Shared → Prop}, Base w s.heap → Rows w true s.heap c rs → (∀ p ∈ l, Oth w s.heap p.1 p.2) → (∀ v h' t', Res w s.heap h' c rs l v → Le s.heap h' → R (.ok (.ret v)) { s with heap := h', toks := t' }) →
      codeAny (model Pg w) A (.call (.ref f) ⟨.ref c :: l.map (·.1), []⟩) R s)
    (EE : EF env L) (S : St g L m mv s.heap) (kx : env.kindOf x = some .local) (mx : m x = some (.ref c)) (ky : env.kindOf y = some .local) (my : m y = some (.ref D)) (dx : (x == ("__debug__" : Str)) = false) (dy : (y == ("__debug__" : Str)) = false)
    (B : Base w s.heap) (Dc : Rows w true s.heap c rs) (hD : s.heap.IsList D (l.map (·.1)).toArray) (hl : ∀ p ∈ l, Oth w s.heap p.1 p.2) (hn : l.length ≤ 5)
    (h : ∀ v h' t', Res w s.heap h' c rs l v → Le s.heap h' → Q v { s with heap := h', toks := t' }) :
    wpAny (model Pg w) A (eval (.Call (.Attribute (.Name x p1) name apos) [.Starred (.Name y p2) p3] [] pos) env) Q E s := by
  rw [arm_eval_Call]
  refine wpAny_bind (m := attributeBase (.Name x p1) name env (eval (.Name x p1) env)) ?_
  show wpAny _ _ (eval (.Name x p1) env) _ _ _
  refine nL EE S kx mx ?_ dx
  refine wpAny_bind (wpAny_standAt ?_)
  unfold methodCall
  refine wpAny_bind (wpAny_holding ?_)
  show wpAny _ _ (getAttr (.ref c) name true >>= fun v => pure (v, [])) _ _ _
  obtain ⟨es, ep, Dd, _⟩ := id Dc
  refine wpAny_bind ?_
  unfold getAttr
  refine wpAny_bind (wpAny_mkText ?_)
  refine getAttrBy_im (s := { s with toks := s.toks + 1 }) B Dd hf (wpAny_call (fn_get (s := { s with toks := s.toks + 1 }) B.k hft ⟨rfl, ?_⟩))
  refine wpAny_pure ?_
  refine wpAny_bind (m := methodCallPos _ _ _ _ _) (wpAny_pure ?_)
  dsimp only
  have k1 := Le.push s.heap (methodObj (.ref f) (.ref c))
  have hq : (s.heap.push (methodObj (.ref f) (.ref c))).get? s.heap.objs.size = some (methodObj (.ref f) (.ref c)) := Heap.get?_push_size _ rfl
  generalize s.heap.push (methodObj (.ref f) (.ref c)) = h₁ at k1 hq ⊢
  have he : starEach [.Starred (.Name y p2) p3] env = [(true, eval (.Name y p2) env)] := rfl
  rw [he]
  have hD₁ : h₁.IsList D (l.map (·.1)).toArray := let ⟨o, ho, r⟩ := hD; ⟨o, k1 _ _ ho, r⟩
  refine ks_call (P := MethP (KK w) s.heap.objs.size f (.ref c)) rfl (keeps_M hfn) (ks_lone ?_)
  refine nL EE (S.le k1) ky my ?_ dy
  obtain ⟨o, ho, hc, nn, hd⟩ := id hD₁
  have hT' : Shared.TypeIs { s with heap := h₁, toks := s.toks + 1 } (.ref D) "list" := ⟨o, ho, hc⟩
  unfold StarOf notIterableAtAll
  refine wpAny_bind (wpAny_specialOf hT' PySem.F.slot_list_iter.lookup (wpAny_pure ⟨rfl, ?_⟩))
  refine wpAny_collect_seq D (.inl rfl) ho hc hd (fun h₂ k2 => ?_) (by rw [sizeLine_eq]; simp; omega)
  have k : Le s.heap h₂ := fun b o e => k2 _ _ (k1 _ _ e)
  refine ⟨⟨k2 _ _ hq, (B.keeps k).k⟩, wpAny_call ?_⟩
  refine method_call (k2 _ _ hq) ?_
  refine spec (B.keeps k) (Dc.keeps k) (fun p hp => (hl p hp).keeps k) fun v h' t' r k3 => ?_
  exact h v h' t' (r.older k) fun b o e => k3 _ _ (k _ _ e)
end
end Mine

set_option Elab.async false
set_option maxRecDepth 100000
set_option maxHeartbeats 8000000
set_option linter.unusedVariables false
open PySem PySem.W PyProof.Rows PySem.Calls
namespace Mine

/-! ## the items of a dict or of one of ours -/
def EntAt (h : Heap) (d : Addr) (es : Array DictEntry) (ep : Nat) : Prop := ∃ o, h.get? d = some o ∧ o.data = .dict es ep
theorem DAt.entAt {im : Bool} {h : Heap} {a : Addr} {es : Array DictEntry} {ep : Nat} (D : DAt im h a es ep) : EntAt h a es ep := let ⟨_, ho⟩ := D.obj; ⟨_, ho, rfl⟩
abbrev itObj (f0 f1 : Value) (d : Addr) (i n ep : Nat) (ok ov : Value) : Obj := { cls := .type "dict_itemiterator", dict := none, data := .fields #[f0, f1, .ref d, .int i 0, .int n 0, .int ep 0, ok, ov], slots := #[] }
def ItIt (h : Heap) (it d : Addr) (i n ep : Nat) : Prop := ∃ f0 f1 ok ov, (f0 = .none ∨ ∃ a : Nat, f0 = rawInt a) ∧ h.get? it = some (itObj f0 f1 d i n ep ok ov)

section
variable {prog : Program} {w : World} {A : Around} {E : Value → Shared → Prop} {s : Shared}

theorem loadIfAlive_of {a : Addr} {Q : Option Obj → Shared → Prop} (h : Q (s.heap.get? a) s) : wpAny (model prog w) A (loadIfAlive a) Q E s := fun _ _ _ => h
theorem nxt_item {it d : Addr} {i ep : Nat} {es : Array DictEntry} {e : DictEntry} {Q : Option Value → Shared → Prop} (hit : ItIt s.heap it d i es.size ep) (hd : EntAt s.heap d es ep) (he : es[i]? = some e)
    (hQ : ∀ h' T, T = s.heap.objs.size → ItIt h' it d (i + 1) es.size ep → h'.get? T = some { cls := .type "tuple", data := .seq #[e.key, e.val] } → Ch [it] s.heap h' → Q (some (.ref T)) { s with heap := h' }) :
    wpAny (model prog w) A (pyNext (.ref it)) Q E s := by
  obtain ⟨hp, g, dr, tk, os⟩ := s
  obtain ⟨f0, f1, ok, ov, hf0, hit⟩ := hit
  obtain ⟨od, hod, hdd⟩ := hd
  have hT : Shared.TypeIs ⟨hp, g, dr, tk, os⟩ (.ref it) "dict_itemiterator" := ⟨_, hit, rfl⟩
  unfold pyNext
  refine wpAny_bind (wpAny_attempt (wpAny_callSpecial?_slot (name := Str.ofString "__next__") hT PySem.F.slot_dict_itemiterator_next
    (wpAny_call_entry PySem.F.slot_dict_itemiterator_next hT PySem.F.entry_dict_itemiterator_next ?_ (PySem.F.args_dict_itemiterator_next_1 _))))
  refine wpAny_bind (wpAny_pure ?_)
  refine wpAny_bind (wpAny_bind ?_)
  refine wpAny_bind (wpAny_typeNameOfWhole_itemiter hT (wpAny_pure ?_))
  refine wpAny_bind (wpAny_fieldsOf hit rfl ?_)
  have hown : Builtin.Dict_items.ownsTuple "dict_itemiterator" = true := by decide
  simp only [hown, if_true]
  show wpAny _ _ (if (Value.ref d == Value.none) = true then _ else _) _ _ _
  rw [if_neg (show ¬ ((Value.ref d == Value.none) = true) from Bool.false_ne_true)]
  refine wpAny_bind (wpAny_pure (wpAny_bind (wpAny_dictEntries hod hdd ?_)))
  rw [if_neg (by simp)]
  refine wpAny_bind (wpAny_pure (wpAny_bind (wpAny_dictEpoch hod hdd ?_)))
  rw [if_neg (by simp)]
  refine wpAny_pure ?_
  simp only [show ¬ ((i : Int) < 0) from by omega, if_false, Int.toNat_natCast, he]
  refine wpAny_bind (wpAny_bind (wpAny_typeNameOfWhole_itemiter hT (wpAny_pure ?_)))
  refine wpAny_bind (wpAny_isOneOf_itemiter hT ?_)
  show wpAny _ _ (setField (.ref it) 3 (rawInt ((i : Int) + 1)) >>= _) _ _ ⟨hp, g, dr, tk, os⟩
  refine wpAny_bind (wpAny_setField_rec hit (by simp) fun h₁ he₁ hs₁ => ?_)
  replace hs₁ : Heap.SameBut it hp h₁ := hs₁
  replace he₁ : h₁.get? it = some (itObj f0 f1 d (i + 1) es.size ep ok ov) := by
    have q : ((i + 1 : Nat) : Int) = (i : Int) + 1 := by omega
    unfold itObj; rw [q]; simpa [rawInt] using he₁
  have hT₁ : Shared.TypeIs ⟨h₁, g, dr, tk, os⟩ (.ref it) "dict_itemiterator" := ⟨_, he₁, rfl⟩
  refine wpAny_bind (wpAny_holding ?_)
  refine wpAny_bind (wpAny_isOneOf_itemiter hT₁ ?_)
  refine wpAny_bind (wpAny_isOneOf_itemiter hT₁ ?_)
  show wpAny _ _ (Builtin.Dict_items.pairFromOwner (.ref it) 6 e.key e.val) _ _ ⟨h₁, g, dr, tk, os⟩
  unfold Builtin.Dict_items.pairFromOwner
  refine wpAny_bind (wpAny_newTuple ?_)
  have hz : h₁.objs.size = hp.objs.size := hs₁.1
  rw [hz]
  have ht₂ : (h₁.push { cls := .type "tuple", data := .seq #[e.key, e.val] }).get? hp.objs.size = some { cls := .type "tuple", data := .seq #[e.key, e.val] } := by rw [← hz]; exact Heap.get?_push_size _ rfl
  have he₂ : (h₁.push { cls := .type "tuple", data := .seq #[e.key, e.val] }).get? it = some (itObj f0 f1 d (i + 1) es.size ep ok ov) := Heap.get?_push_of_some _ he₁
  have c₂ : Ch [it] hp (h₁.push { cls := .type "tuple", data := .seq #[e.key, e.val] }) := fun b o q n => Heap.get?_push_of_some _ (hs₁.extBut b o (by simpa using n) q)
  have hne : hp.objs.size ≠ it := Nat.ne_of_gt (Heap.lt_size hit)
  show wpAny _ _ (Builtin.Dict_items.ownedTupleIsFree (.ref it) >>= _) _ _ (⟨h₁.push { cls := .type "tuple", data := .seq #[e.key, e.val] }, g, dr, tk, os⟩ : Shared)
  generalize h₁.push { cls := .type "tuple", data := .seq #[e.key, e.val] } = h₂ at ht₂ he₂ c₂
  clear he₁ hs₁ hT₁ hz h₁
  have fin : ∀ h₃, ItIt h₃ it d (i + 1) es.size ep → Heap.SameBut it h₂ h₃ → Q (some (.ref hp.objs.size)) ⟨h₃, g, dr, tk, os⟩ := fun h₃ a b =>
    hQ h₃ _ rfl a ((b.2 _ hne).trans ht₂) (c₂.trans (Ch.of_same b))
  refine wpAny_bind ?_
  unfold Builtin.Dict_items.ownedTupleIsFree
  refine wpAny_bind (wpAny_field he₂ rfl (x := f0) rfl ?_)
  rcases hf0 with rfl | ⟨a, rfl⟩
  · refine wpAny_pure ?_
    simp only [if_true]
    refine wpAny_bind (wpAny_field he₂ rfl (x := ok) rfl ?_)
    refine wpAny_bind (wpAny_field he₂ rfl (x := ov) rfl ?_)
    refine wpAny_bind (wpAny_setField_rec he₂ (by simp) fun h₃ he₃ hs₃ => ?_)
    replace he₃ : h₃.get? it = some (itObj .none f1 d (i + 1) es.size ep e.key ov) := he₃
    refine wpAny_bind (wpAny_setField_rec he₃ (by simp) fun h₄ he₄ hs₄ => ?_)
    replace he₄ : h₄.get? it = some (itObj .none f1 d (i + 1) es.size ep e.key e.val) := he₄
    refine wpAny_bind (wpAny_setField_rec he₄ (by simp) fun h₅ he₅ hs₅ => ?_)
    replace he₅ : h₅.get? it = some (itObj (rawInt hp.objs.size) f1 d (i + 1) es.size ep e.key e.val) := he₅
    refine wpAny_bind (wpAny_setField_rec he₅ (by simp) fun h₆ he₆ hs₆ => ?_)
    replace he₆ : h₆.get? it = some (itObj (rawInt hp.objs.size) (.bool false) d (i + 1) es.size ep e.key e.val) := he₆
    refine wpAny_bind (wpAny_letGo (wpAny_pure (wpAny_pure ⟨_, rfl, wpAny_pure (fin h₆ ⟨_, _, _, _, .inr ⟨_, rfl⟩, he₆⟩ (((hs₃.trans hs₄).trans hs₅).trans hs₆))⟩)))
  · show wpAny _ _ (loadIfAlive ((a : Int).toNat) >>= _) _ _ _
    rw [Int.toNat_natCast]
    cases ha : h₂.get? a with
    | none =>
      refine wpAny_bind (loadIfAlive_of ?_)
      dsimp only
      rw [ha]
      simp only [Option.isNone_none, if_true]
      refine wpAny_pure ?_
      simp only [if_true]
      refine wpAny_bind (wpAny_field he₂ rfl (x := ok) rfl ?_)
      refine wpAny_bind (wpAny_field he₂ rfl (x := ov) rfl ?_)
      refine wpAny_bind (wpAny_setField_rec he₂ (by simp) fun h₃ he₃ hs₃ => ?_)
      replace he₃ : h₃.get? it = some (itObj (rawInt a) f1 d (i + 1) es.size ep e.key ov) := he₃
      refine wpAny_bind (wpAny_setField_rec he₃ (by simp) fun h₄ he₄ hs₄ => ?_)
      replace he₄ : h₄.get? it = some (itObj (rawInt a) f1 d (i + 1) es.size ep e.key e.val) := he₄
      refine wpAny_bind (wpAny_setField_rec he₄ (by simp) fun h₅ he₅ hs₅ => ?_)
      replace he₅ : h₅.get? it = some (itObj (rawInt hp.objs.size) f1 d (i + 1) es.size ep e.key e.val) := he₅
      refine wpAny_bind (wpAny_setField_rec he₅ (by simp) fun h₆ he₆ hs₆ => ?_)
      replace he₆ : h₆.get? it = some (itObj (rawInt hp.objs.size) (.bool false) d (i + 1) es.size ep e.key e.val) := he₆
      refine wpAny_bind (wpAny_letGo (wpAny_pure (wpAny_pure ⟨_, rfl, wpAny_pure (fin h₆ ⟨_, _, _, _, .inr ⟨_, rfl⟩, he₆⟩ (((hs₃.trans hs₄).trans hs₅).trans hs₆))⟩)))
    | some oa =>
      refine wpAny_bind (loadIfAlive_of ?_)
      dsimp only
      rw [ha]
      simp only [Option.isNone_some, Bool.false_eq_true, if_false]
      refine wpAny_bind (wpAny_field he₂ rfl (x := f1) rfl ?_)
      by_cases hf1 : (f1 != Value.bool true) = true
      · rw [if_pos hf1]
        refine wpAny_bind (wpAny_setField_rec he₂ (by simp) fun h₃ he₃ hs₃ => ?_)
        replace he₃ : h₃.get? it = some (itObj (rawInt a) (.bool true) d (i + 1) es.size ep ok ov) := he₃
        refine wpAny_pure ?_
        simp only [Bool.false_eq_true, if_false]
        exact wpAny_pure (wpAny_pure ⟨_, rfl, wpAny_pure (fin h₃ ⟨_, _, _, _, .inr ⟨_, rfl⟩, he₃⟩ hs₃)⟩)
      · rw [if_neg hf1]
        refine wpAny_pure ?_
        simp only [Bool.false_eq_true, if_false]
        exact wpAny_pure (wpAny_pure ⟨_, rfl, wpAny_pure (fin h₂ ⟨_, _, _, _, .inr ⟨_, rfl⟩, he₂⟩ (Heap.SameBut.refl _ _))⟩)

theorem nxt_end {it d : Addr} {ep : Nat} {es : Array DictEntry} {Q : Option Value → Shared → Prop} (hh : A.handled = none) (hit : ItIt s.heap it d es.size es.size ep) (hd : EntAt s.heap d es ep)
    (hQ : ∀ h', Ch [it] s.heap h' → Q none { s with heap := h' }) : wpAny (model prog w) A (pyNext (.ref it)) Q E s := by
  obtain ⟨f0, f1, ok, ov, hf0, hit⟩ := hit
  obtain ⟨od, hod, hdd⟩ := hd
  have hT : s.TypeIs (.ref it) "dict_itemiterator" := ⟨_, hit, rfl⟩
  unfold pyNext
  refine wpAny_bind (wpAny_attempt (wpAny_callSpecial?_slot (name := Str.ofString "__next__") hT PySem.F.slot_dict_itemiterator_next
    (wpAny_call_entry PySem.F.slot_dict_itemiterator_next hT PySem.F.entry_dict_itemiterator_next ?_ (PySem.F.args_dict_itemiterator_next_1 _))))
  refine wpAny_bind (wpAny_pure ?_)
  refine wpAny_bind (wpAny_bind ?_)
  refine wpAny_bind (wpAny_typeNameOfWhole_itemiter hT (wpAny_pure ?_))
  refine wpAny_bind (wpAny_fieldsOf hit rfl ?_)
  have hown : Builtin.Dict_items.ownsTuple "dict_itemiterator" = true := by decide
  simp only [hown, if_true]
  show wpAny _ _ (if (Value.ref d == Value.none) = true then _ else _) _ _ s
  rw [if_neg (show ¬ ((Value.ref d == Value.none) = true) from Bool.false_ne_true)]
  refine wpAny_bind (wpAny_pure (wpAny_bind (wpAny_dictEntries hod hdd ?_)))
  rw [if_neg (by simp)]
  refine wpAny_bind (wpAny_pure (wpAny_bind (wpAny_dictEpoch hod hdd ?_)))
  rw [if_neg (by simp)]
  refine wpAny_pure ?_
  simp only [show ¬ ((es.size : Int) < 0) from by omega, if_false, Int.toNat_natCast, Array.getElem?_eq_none (Nat.le_refl _)]
  refine wpAny_bind (wpAny_bind (wpAny_typeNameOfWhole_itemiter hT (wpAny_pure ?_)))
  show wpAny _ _ (setField (.ref it) 2 .none >>= _) _ _ s
  refine wpAny_bind (wpAny_setField hit rfl (by simp) ?_)
  show wpAny _ _ (newExc (.type "StopIteration") [] >>= _) _ _ _
  refine wpAny_bind ?_
  simp only [newExc, newTuple]
  refine wpAny_bind (wpAny_newObj_type ?_ (by size_fits))
  refine wpAny_bind (m := firstArgMember _ _) (wpAny_of_eq (a := Value.none) (by first | rfl | (simp only [firstArgMember]; rfl)) ?_)
  refine wpAny_newObj_type ?_ (by size_fits)
  simp only [raiseNew]
  refine wpAny_bind (wpAny_handled ?_)
  rw [show A.in1.handled = none from hh]
  refine wpAny_bind (wpAny_pure (wpAny_throw ?_))
  refine wpAny_bind (wpAny_isInstance (T := "StopIteration") (b := true) ⟨_, Heap.get?_push_size _ rfl, rfl⟩ isSubtype_stop ?_)
  refine wpAny_pure (hQ _ fun b o e n => ?_)
  exact (((Heap.SameBut.update ..).extBut.push _).push _) b o (by simpa using n) e
end
end Mine

set_option Elab.async false
set_option maxRecDepth 100000
set_option maxHeartbeats 8000000
set_option linter.unusedVariables false
open PySem PySem.W PyProof.Rows PySem.Calls
namespace Mine

theorem cls_ne {h : Heap} {a : Addr} {o o' : Obj} (e : h.get? a = some o) (e' : h.get? a = some o') (n : o.cls ≠ o'.cls) : False := n (by rw [e] at e'; cases e'; rfl)
abbrev viewObj (a : Addr) : Obj := { cls := .type "dict_items", data := .fields #[.ref a] }
abbrev tupObj (e : DictEntry) : Obj := { cls := .type "tuple", data := .seq #[e.key, e.val] }
def TupsAt (h : Heap) (acc : List Value) (es : List DictEntry) : Prop := acc.length = es.length ∧ ∀ (j : Nat) (e : DictEntry), es[j]? = some e → ∃ T, acc[j]? = some (Value.ref T) ∧ h.get? T = some (tupObj e)
theorem TupsAt.keeps {h h' : Heap} {acc es} (x : TupsAt h acc es) (k : Le h h') : TupsAt h' acc es := ⟨x.1, fun j e q => let ⟨T, a, b⟩ := x.2 j e q; ⟨T, a, k _ _ b⟩⟩

section
variable {w : World} {A : Around} {E : Value → Shared → Prop} {s : Shared} {prog : Program} {a : Addr} {es : Array DictEntry} {ep : Nat} {im : Bool}

theorem items_D {Q : Value → Shared → Prop} (B : Base w s.heap) (D : DAt im s.heap a es ep) (h : Q (.ref s.heap.objs.size) { s with heap := s.heap.push (viewObj a) }) : wpAny (model prog w) A (call (.builtin "dict.items") [.ref a]) Q E s := by
  refine callB (owner := "dict") (n := "items") (.inr (by decide +kernel)) (by decide +kernel) F.slot_dict_items.plain F.entry_dict_items (D.isDict B) (F.args_dict_items_1 _) ?_
  unfold Builtin.«dict.items» Builtin.Dict.noArgs
  refine wpAny_bind (wpAny_bind ((D.ordered B).here ?_))
  show wpAny _ _ (pure a) _ _ s
  refine wpAny_pure ?_
  unfold Builtin.Dict.showsAll
  rw [if_neg (by rw [D.sys]; exact Bool.false_ne_true)]
  refine wpAny_bind (wpAny_pure ?_)
  exact wpAny_bind (wpAny_newObj_type (wpAny_pure ⟨_, rfl, h⟩))

theorem iter_view {v d : Addr} {Q : Value → Shared → Prop} (hv : s.heap.get? v = some (viewObj d)) (hd : EntAt s.heap d es ep)
    (hQ : Q (.ref s.heap.objs.size) { s with heap := s.heap.push (itObj .none (.bool false) d 0 es.size ep .none .none) }) : wpAny (model prog w) A (pyIter (.ref v)) Q E s := by
  obtain ⟨o, ho, hdat⟩ := hd
  have hT : s.TypeIs (.ref v) "dict_items" := ⟨_, hv, rfl⟩
  refine wpAny_pyIter_slot hT PySem.F.slot_dict_items_iter (wpAny_call_entry PySem.F.slot_dict_items_iter hT PySem.F.entry_dict_items_iter ?_ (PySem.F.args_dict_items_iter_1 _))
  unfold Builtin.«dict_items.__iter__»
  refine wpAny_bind (wpAny_pure (wpAny_bind ?_))
  unfold Builtin.Dict_items.dictOf
  refine wpAny_bind (wpAny_field hv rfl (x := .ref d) rfl (wpAny_pure (wpAny_bind ?_)))
  unfold Builtin.Dict_items.newIterator
  refine wpAny_bind (wpAny_dictEntries ho hdat (wpAny_bind (wpAny_dictEpoch ho hdat ?_)))
  have hown : Builtin.Dict_items.ownsTuple "dict_itemiterator" = true := by decide
  simp only [hown, if_true]
  refine wpAny_newObj_type (wpAny_pure ⟨_, rfl, "dict_itemiterator", _, ⟨_, Heap.get?_push_size _ rfl, rfl⟩, PySem.F.slot_dict_itemiterator_next.lookup, ?_⟩)
    (by simp only [sizeOk, Builtin.Dict_items.ownedTupleFields, List.size_toArray, List.length_append, List.length_cons, List.length_nil, sizeLine_eq]; omega)
  exact hQ

theorem ext_items {R : Result → Shared → Prop} {h₀ : Heap} {S I d : Addr} {res : Value} (hh : A.handled = none) (hSI : S ≠ I) (hSd : S ≠ d) (hId : I ≠ d) (hn : es.size ≤ 4)
    (hR : ∀ h' tk acc c, h'.get? S = some { cls := .type "list", dict := none, data := .seq acc c, slots := #[] } → TupsAt h' acc.toList es.toList → Ch [S, I] h₀ h' → R (.ok (.ret res)) { s with heap := h', toks := tk }) :
    ∀ (k i : Nat) (h : Heap) (tk : Nat) (acc : Array Value) (c : Nat), es.size - i = k → i ≤ es.size → ItIt h I d i es.size ep → EntAt h d es ep → h.get? S = some { cls := .type "list", dict := none, data := .seq acc c, slots := #[] } →
      acc.size = i → (∀ j e, j < i → es[j]? = some e → ∃ T : Addr, acc[j]? = some (Value.ref T) ∧ h.get? T = some (tupObj e)) → Ch [S, I] h₀ h →
      codeAny (model prog w) A (.builtin "list.extend.loop" ⟨[.ref S, .ref I, res], []⟩) R { s with heap := h, toks := tk } := by
  intro k
  induction k with
  | zero =>
    intro i h tk acc c hk hi hit hd hS hacc hT hch
    have hin : i = es.size := by omega
    subst hin
    refine codeAny_builtin PySem.F.entry_extend_loop ?_
    rw [Around.under_plainId PySem.F.plain_extend_loop _]
    show wpAny _ A.in1 (pyNext (.ref I) >>= _) _ _ _
    refine wpAny_bind (nxt_end (s := { s with heap := h, toks := tk }) hh hit hd fun h' k' => ?_)
    have kS := k' S _ hS (by simpa using hSI)
    refine wpAny_pure (hR h' tk acc c kS ⟨by simpa using hacc, fun j e q => ?_⟩ (hch.trans (k'.mono fun q hq => .tail _ hq)))
    have hj : j < es.size := by
      have := (List.getElem?_eq_some_iff.mp q).1; simpa using this
    obtain ⟨T, t1, t2⟩ := hT j e (by omega) (by simpa using q)
    refine ⟨T, by simpa using t1, k' T _ t2 ?_⟩
    obtain ⟨f0, f1, ok, ov, _, hit⟩ := hit
    intro q'
    rw [List.mem_singleton.mp q'] at t2; exact cls_ne hit t2 (fun z => by simp at z)
  | succ k ih =>
    intro i h tk acc c hk hi hit hd hS hacc hT hch
    have hlt : i < es.size := by omega
    refine codeAny_builtin PySem.F.entry_extend_loop ?_
    rw [Around.under_plainId PySem.F.plain_extend_loop _]
    show wpAny _ A.in1 (pyNext (.ref I) >>= _) _ _ _
    refine wpAny_bind (nxt_item (s := { s with heap := h, toks := tk }) hit hd (Array.getElem?_eq_getElem hlt) fun h' T hTe hit' hT' k' => ?_)
    dsimp only at k' hTe
    have kS := k' S _ hS (by simpa using hSI)
    have hTS : T ≠ S := fun q => by rw [← q, hTe, get_none_ge (Nat.le_refl _)] at hS; cases hS
    have hTI : I ≠ T := fun q => by
      obtain ⟨_, _, _, _, _, e⟩ := hit
      rw [q, hTe, get_none_ge (Nat.le_refl _)] at e; cases e
    show wpAny _ A.in1 (updateSeq S (·.push (.ref T)) >>= _) _ _ _
    refine wpAny_bind ?_
    refine wpAny_updateSeq kS rfl (wpAny_pure ⟨plainId_quiet PySem.F.plain_extend_loop _, ih (i + 1) _ tk (acc.push (.ref T)) _ (by omega) hlt ?_ ?_ (Heap.get?_update_self _ kS rfl) (by simp [hacc]) ?_ ?_⟩)
      (by rw [hacc, sizeLine_eq]; omega) (by show (acc.push (.ref T)).size ≤ sizeLine + 1; rw [Array.size_push, hacc, sizeLine_eq]; omega)
    · obtain ⟨f0, f1, ok, ov, a, e⟩ := hit'
      exact ⟨f0, f1, ok, ov, a, (Heap.get?_update_other _ _ hSI).trans e⟩
    · obtain ⟨o, e, q⟩ := hd
      exact ⟨o, (Heap.get?_update_other _ _ hSd).trans (k' d o e (by simpa using Ne.symm hId)), q⟩
    · intro j e hj he
      rcases Nat.lt_or_ge j i with hji | hji
      · obtain ⟨T', t1, t2⟩ := hT j e hji he
        refine ⟨T', by rw [Array.getElem?_push, if_neg (by rw [hacc]; omega)]; exact t1, ?_⟩
        have n1 : S ≠ T' := fun q => by rw [← q] at t2; exact cls_ne hS t2 (fun z => by simp at z)
        have n2 : T' ∉ [I] := fun q => by
          obtain ⟨_, _, _, _, _, e⟩ := hit
          rw [List.mem_singleton.mp q] at t2; exact cls_ne e t2 (fun z => by simp at z)
        exact (Heap.get?_update_other _ _ n1).trans (k' T' _ t2 n2)
      · have : j = i := by omega
        subst this
        refine ⟨T, by rw [Array.getElem?_push, if_pos hacc.symm], ?_⟩
        have : es[j] = e := by simpa [hlt] using he
        rw [← this]
        exact (Heap.get?_update_other _ _ (Ne.symm hTS)).trans hT'
    · intro b o e hb
      have n1 : S ≠ b := fun q => hb (q ▸ .head _)
      exact (Heap.get?_update_other _ _ n1).trans (k' b o (hch b o e hb) fun q => hb (.tail _ q))

/-- list(o.items()) -/
theorem list_items {v : Addr} {Q : Value → Shared → Prop} (hh : A.handled = none) (hv : s.heap.get? v = some (viewObj a)) (hd : EntAt s.heap a es ep) (hn : es.size ≤ 4)
    (h : ∀ l h' tk acc c, h'.get? l = some { cls := .type "list", dict := none, data := .seq acc c, slots := #[] } → TupsAt h' acc.toList es.toList → Le s.heap h' → Q (.ref l) { s with heap := h', toks := tk }) :
    wpAny (model prog w) A (call (.type "list") [.ref v]) Q E s := by
  refine callType_codes (Q₁ := fun obj s₁ => obj = .ref s.heap.objs.size ∧ s₁ = { s with heap := s.heap.push { cls := .type "list", data := .seq #[] } }) PySem.F.called_list (PySem.F.typeCall_list_1 _) PySem.F.entry_list_init
    (code_list_new _ ⟨rfl, rfl⟩) fun obj s₁ h₁ => ?_
  obtain ⟨rfl, rfl⟩ := h₁
  have hS : (s.heap.push { cls := .type "list", data := .seq #[] }).get? s.heap.objs.size = some { cls := .type "list", data := .seq #[] } := Heap.get?_push_size _ rfl
  refine ⟨⟨_, hS, rfl⟩, PySem.F.args_list_init_2 _ _, ?_⟩
  have vS : s.heap.objs.size ≠ v := Nat.ne_of_gt (Heap.lt_size hv)
  obtain ⟨od, hod, hdd⟩ := hd
  have dS : s.heap.objs.size ≠ a := Nat.ne_of_gt (Heap.lt_size hod)
  have k₁ := Le.push s.heap { cls := .type "list", data := .seq #[] }
  generalize hSe : s.heap.objs.size = S at *
  have hSn : s.heap.get? S = none := get_none_ge (Nat.le_of_eq hSe)
  generalize s.heap.push { cls := .type "list", data := .seq #[] } = h₁ at hS k₁ ⊢
  show wpAny _ _ (do let old ← Builtin.List.listItems (.ref S); Builtin.List.listUpdate (.ref S) (fun _ => #[]); letGo old.toList.reverse; Builtin.List.listExtendWith (.ref S) (.ref v) .none) _ _ _
  refine wpAny_bind ?_
  unfold Builtin.List.listItems
  refine wpAny_bind (wpAny_seqItems hS rfl (wpAny_pure ?_))
  show wpAny _ _ (updateSeq S (fun _ => #[]) >>= fun _ => letGo (#[] : Array Value).toList.reverse >>= fun _ => Builtin.List.listExtendWith (.ref S) (.ref v) .none) _ _ _
  refine wpAny_bind (wpAny_updateSeq hS rfl ?_)
  have hS₂ := Heap.get?_update_self (Obj.mapSeq (fun _ => (#[] : Array Value))) hS rfl
  have c₂ : Ch [S] h₁ (h₁.update S (Obj.mapSeq (fun _ => (#[] : Array Value)))) := fun b o e n => (Heap.get?_update_other _ _ (fun (q : S = b) => n (List.mem_singleton.mpr q.symm))).trans e
  dsimp only at c₂ ⊢
  generalize h₁.update S (Obj.mapSeq (fun _ => (#[] : Array Value))) = h₂ at hS₂ c₂ ⊢
  refine wpAny_bind (wpAny_letGo ?_)
  have v₂ := c₂ _ _ (k₁ _ _ hv) (by simpa using Ne.symm vS)
  have d₂ := c₂ _ _ (k₁ _ _ hod) (by simpa using Ne.symm dS)
  have hT : Shared.TypeIs { s with heap := h₂ } (.ref v) "dict_items" := ⟨_, v₂, rfl⟩
  unfold Builtin.List.listExtendWith
  refine wpAny_bind (wpAny_typeOf (T := "dict_items") hT ?_)
  have h1 : Builtin.List.listSameRef (.ref S) (.ref v) = false := by simp [Builtin.List.listSameRef, vS]
  have h2 : (Value.type "dict_items" == Value.type "list") = false := by decide
  have h3 : (Value.type "dict_items" == Value.type "tuple") = false := by decide
  simp only [h1, h2, h3, Bool.or_false, Bool.false_eq_true, if_false]
  refine wpAny_bind (iter_view (s := { s with heap := h₂ }) v₂ ⟨od, d₂, hdd⟩ ?_)
  have hIt : (h₂.push (itObj .none (.bool false) a 0 es.size ep .none .none)).get? h₂.objs.size = some (itObj .none (.bool false) a 0 es.size ep .none .none) := Heap.get?_push_size _ rfl
  have k₃ := Le.push h₂ (itObj .none (.bool false) a 0 es.size ep .none .none)
  have IS : S ≠ h₂.objs.size := Nat.ne_of_lt (Heap.lt_size hS₂)
  have Id : h₂.objs.size ≠ a := Nat.ne_of_gt (Heap.lt_size d₂)
  have In : s.heap.get? h₂.objs.size = none := by
    cases q : s.heap.get? h₂.objs.size with
    | none => rfl
    | some o =>
      have := c₂ _ _ (k₁ _ _ q) (by simpa using Ne.symm IS)
      exact absurd (Heap.lt_size this) (Nat.lt_irrefl _)
  dsimp only
  generalize h₂.push (itObj .none (.bool false) a 0 es.size ep .none .none) = h₃ at hIt k₃ ⊢
  generalize h₂.objs.size = I at *
  have S₃ := k₃ _ _ hS₂
  refine wpAny_bind (wpAny_holding (kdx_hint ⟨_, k₃ _ _ v₂, rfl⟩ ?_))
  have fin : ∀ (R : Result → Shared → Prop), (∀ h' tk acc c, h'.get? S = some { cls := .type "list", dict := none, data := .seq acc c, slots := #[] } → TupsAt h' acc.toList es.toList → Le s.heap h' → R (.ok (.ret .none)) { s with heap := h', toks := tk }) →
      ∀ (h₄ : Heap) (c₀ : Nat), Ch [S] h₃ h₄ → h₄.get? S = some { cls := .type "list", data := .seq #[] c₀ } → codeAny (model prog w) A.in1 (.builtin "list.extend.loop" ⟨[.ref S, .ref I, .none], []⟩) R { s with heap := h₄ } := fun R hR h₄ c₀ c₄ S₄ =>
    ext_items (A := A.in1) (s := s) (ep := ep) (h₀ := s.heap) hh IS dS Id hn (fun h' tk acc c l1 l2 l3 => hR h' tk acc c l1 l2 fun b o e => l3 b o e (by
        simp only [List.mem_cons, List.not_mem_nil, or_false, not_or]; exact ⟨ne_none e hSn, ne_none e In⟩))
      es.size 0 h₄ s.toks #[] c₀ rfl (Nat.zero_le _) ⟨_, _, _, _, .inl rfl, c₄ _ _ hIt (by simpa using Ne.symm IS)⟩ ⟨od, c₄ _ _ (k₃ _ _ d₂) (by simpa using Ne.symm dS), hdd⟩ S₄ rfl (fun j e hj _ => absurd hj (Nat.not_lt_zero _))
      fun b o e n => c₄ _ _ (k₃ _ _ (c₂ _ _ (k₁ _ _ e) fun q => n (List.mem_singleton.mp q ▸ .head _))) fun q => n (List.mem_singleton.mp q ▸ .head _)
  refine wpAny_ite_split (fun _ => ?_) (fun _ => wpAny_pure ⟨plainId_quiet PySem.F.plain_extend_loop _, fin _ (fun h' tk acc c l1 l2 l3 => ⟨rfl, h S h' tk acc c l1 l2 l3⟩) h₃ _ (.refl _ _) S₃⟩)
  refine wpAny_bind (wpAny_rule ?_)
  refine wpAny_bind ?_
  show wpAny _ _ (updateSeq S (·.push .none) >>= fun _ => updateSeq S (·.pop)) _ _ _
  refine wpAny_bind (wpAny_updateSeq S₃ rfl ?_)
  have hS₄ := Heap.get?_update_self (Obj.mapSeq (·.push Value.none)) S₃ rfl
  refine wpAny_updateSeq (hz := by seq_fits) hS₄ rfl ?_
  have hS₅ := Heap.get?_update_self (Obj.mapSeq (·.pop)) hS₄ rfl
  exact wpAny_pure ⟨plainId_quiet PySem.F.plain_extend_loop _, fin _ (fun h' tk acc c l1 l2 l3 => ⟨rfl, h S h' tk acc c l1 l2 l3⟩) _ _ (fun b o e n => (Heap.get?_update_other _ _ (fun (q : S = b) => n (List.mem_singleton.mpr q.symm))).trans ((Heap.get?_update_other _ _ (fun (q : S = b) => n (List.mem_singleton.mpr q.symm))).trans e)) hS₅⟩
end
end Mine

set_option Elab.async false
set_option maxRecDepth 100000
set_option maxHeartbeats 8000000
set_option linter.unusedVariables false
open PySem PySem.W PyProof.Rows PySem.Calls
namespace Mine

open PySem.SeqAt PySem.MeetsSeq
/-! ## the items of two with the same rows are equal -/
section
variable {w : World} {A : Around} {E : Value → Shared → Prop} {s : Shared} {prog : Program}

theorem ent_pair {es es' : Array DictEntry} {rs : Rw} (R : RowsIn w es rs) (R' : RowsIn w es' rs) {j : Nat} {e : DictEntry} (h : es.toList[j]? = some e) :
    ∃ e' x t t' v u u', es'.toList[j]? = some e' ∧ e = ⟨hashStr w x, .str x t, .int v u⟩ ∧ e' = ⟨hashStr w x, .str x t', .int v u'⟩ := by
  obtain ⟨x, t, v, u, he⟩ := R.ent e (List.mem_of_getElem? h)
  have h1 : rs[j]? = some (x, v) := by rw [← R.rows, List.getElem?_map, h, he]; rfl
  rw [← R'.rows, List.getElem?_map] at h1
  cases h2 : es'.toList[j]? with
  | none => rw [h2] at h1; cases h1
  | some e' =>
    obtain ⟨x', t', v', u', he'⟩ := R'.ent e' (List.mem_of_getElem? h2)
    rw [h2, he'] at h1
    have h3 : (x', v') = (x, v) := Option.some.inj h1
    obtain ⟨rfl, rfl⟩ := Prod.mk.inj h3
    exact ⟨e', x', t, t', v', u, u', rfl, he, he'⟩

theorem eq_items {l l' : Addr} {acc acc' : Array Value} {es es' : Array DictEntry} {rs : Rw} {Q : Value → Shared → Prop} (hl : s.heap.IsList l acc) (hl' : s.heap.IsList l' acc') (T : TupsAt s.heap acc.toList es.toList) (T' : TupsAt s.heap acc'.toList es'.toList)
    (R : RowsIn w es rs) (R' : RowsIn w es' rs) (hu : A.units < 5000) (h : Q (.bool true) s) : wpAny (model prog w) A (compareOp .Eq (.ref l) (.ref l')) Q E s := by
  have z1 : acc.size = rs.length := by have := T.1; simp only [Array.length_toList] at this; rw [this, R.size]
  have z2 : acc'.size = rs.length := by have := T'.1; simp only [Array.length_toList] at this; rw [this, R'.size]
  refine eq_listAt (e := fun _ => true) hl hl' (by rw [z1, z2]) (by show A.units < 9900; omega) (fun j h1 h2 => ?_) (by rw [List.all_eq_true.mpr fun _ _ => rfl]; exact h)
  have hj : j < es.toList.length := by rw [Array.length_toList, R.size, ← z1]; exact h1
  obtain ⟨e', x, t, t', v, u, u', he', he, hee⟩ := ent_pair R R' (List.getElem?_eq_getElem hj)
  obtain ⟨a, ha, hoa⟩ := T.2 j _ (List.getElem?_eq_getElem hj)
  obtain ⟨b, hb, hob⟩ := T'.2 j _ he'
  have e1 : acc[j] = .ref a := by have := ha; simp only [Array.getElem?_toList] at this; rw [Array.getElem?_eq_getElem h1] at this; exact Option.some.inj this
  have e2 : acc'[j] = .ref b := by have := hb; simp only [Array.getElem?_toList] at this; rw [Array.getElem?_eq_getElem h2] at this; exact Option.some.inj this
  rw [e1, e2]
  by_cases hab : a = b
  · subst hab; exact .same _
  · refine .of_refs hab ?_
    have := RcAt.tuples (A := A.in1) (s := s) (l := a) (b := b) (items := #[es.toList[j].key, es.toList[j].val]) (items2 := #[e'.key, e'.val]) (e := fun _ => true) ⟨_, hoa, rfl, _, rfl⟩ ⟨_, hob, rfl, _, rfl⟩ (by show A.units + 1 < 9900; omega) (fun i i1 i2 => ?_)
    · exact this
    · rw [he, hee]
      match i, i1 with
      | 0, _ => have := (PyProof.Rows.eqGives_str x x t t').at A.in1.in1 s; rw [beq_self_eq_true] at this; exact this
      | 1, _ => have := (EqGives.int v v u u').at A.in1.in1 s; rw [beq_self_eq_true] at this; exact this

/-! ## the text of a dict or of one of ours -/
def rowText (r : Str × Int) : Str := reprText r.1 ++ ": " ++ (toString r.2 : String)
def rowsText (rs : Rw) : Str := dictText (rs.map rowText)

theorem key_len {k : Str} (h : k ∈ keysL) : (reprText k).length ≤ 3 := by
  simp only [keysL, List.mem_cons, List.not_mem_nil, or_false] at h
  rcases h with rfl | rfl | rfl | rfl <;> decide +kernel
theorem val_len {v : Int} (h0 : 0 ≤ v) (h1 : v < 9) : ((toString v : String) : Str).length ≤ 1 := by
  have : v = 0 ∨ v = 1 ∨ v = 2 ∨ v = 3 ∨ v = 4 ∨ v = 5 ∨ v = 6 ∨ v = 7 ∨ v = 8 := by omega
  rcases this with rfl | rfl | rfl | rfl | rfl | rfl | rfl | rfl | rfl <;> decide +kernel
theorem val_log {v : Int} (h0 : 0 ≤ v) (h1 : v < 9) : v.natAbs.log2 < 1920 := by
  have : v = 0 ∨ v = 1 ∨ v = 2 ∨ v = 3 ∨ v = 4 ∨ v = 5 ∨ v = 6 ∨ v = 7 ∨ v = 8 := by omega
  rcases this with rfl | rfl | rfl | rfl | rfl | rfl | rfl | rfl | rfl <;> decide +kernel
theorem rowText_len {r : Str × Int} (h : OkR r) : (rowText r).length ≤ 6 := by
  unfold rowText
  rw [strLen_append, strLen_append]
  have a := key_len h.1
  have b := val_len h.2.1 h.2.2
  have c : ((": " : String) : Str).length = 2 := rfl
  omega
theorem piled_rows : ∀ {rs : Rw}, (∀ r ∈ rs, OkR r) → piled (rs.map rowText) ≤ 8 * rs.length
  | [], _ => Nat.zero_le _
  | r :: rs, h => by
    rw [List.map_cons, piled_cons, List.length_cons]
    have := rowText_len (h r (.head _))
    have := piled_rows (rs := rs) fun x hx => h x (.tail _ hx)
    omega
theorem rowsText_len {rs : Rw} (h : OkRs rs) : (rowsText rs).length ≤ 40 := by
  have h1 := piled_rows h.ok
  have h2 := h.len
  have e : (rowsText rs).length = 1 + (Str.join ", " (rs.map rowText)).length + 1 := by
    unfold rowsText dictText
    rw [strLen_append, strLen_append]; rfl
  cases rs with
  | nil => rw [e]; decide
  | cons r rs =>
    have := join_length_add ((r :: rs).map rowText) (by simp)
    omega

theorem repr_D {im : Bool} {a : Addr} {es : Array DictEntry} {ep : Nat} {rs : Rw} {Q : Value → Shared → Prop} (B : Base w s.heap) (D : DAt im s.heap a es ep) (R : RowsIn w es rs) (hg : A.guards = some [])
    (h : ∀ u tk, Q (.str (rowsText rs) u) { s with toks := tk }) : wpAny (model prog w) A (call (.builtin "dict.__repr__") [.ref a]) Q E s := by
  refine wpAny_call (codeAny_call_builtin_own (Code.quiet_builtin _ (by decide +kernel)) PySem.F.entry_dict_repr ?_)
  have hk : builtinKind "dict.__repr__" = some .slot := by decide +kernel
  have hsp : splitId "dict.__repr__" = some ("dict", "__repr__") := by decide +kernel
  have hlen : rs.length = es.size := R.size.symm
  have hz := rowsText_len R.ok
  have hp4 := piled_rows R.ok.ok
  have h4 := R.ok.len
  obtain ⟨od, hod⟩ := D.obj
  have body : ∀ E', wpOwn (model prog w) A (.builtin "dict.__repr__" ⟨[.ref a], []⟩) (Builtin.dictReprAt 0 ⟨[.ref a], []⟩)
      (fun fin s' => match fin with | .done f => (match (Except.ok f : Result) with | .ok (.ret v) => Q v s' | .ok _ => False | .error e => E e s') | .again c' => c'.quiet = true ∧ codeAny (model prog w) A c' (fun r s' => match r with | .ok (.ret v) => Q v s' | .ok _ => False | .error e => E e s') s') E' s := by
    intro E'
    unfold Builtin.dictReprAt
    refine wpOwn_bind (wpOwn_of_wpAny ?_)
    unfold Builtin.Dict.dictSlotNone
    refine wpAny_bind ((D.ordered B).here ?_)
    show wpAny _ _ (pure (Value.ref a)) _ _ s
    refine wpAny_pure ?_
    rw [dictReprRunning_eq]
    refine wpOwn_bind (wpOwn_stackTailAny hg (dictGuardF_off _) (dictGuardF_pos _) ?_)
    refine wpOwn_of_wpAny ?_
    show wpAny _ _ (Builtin.Dict.addrOf (.ref a) >>= _) _ _ s
    refine wpAny_bind (wpAny_pure ?_)
    show wpAny _ _ (Builtin.Dict.showsAll a >>= _) _ _ s
    unfold Builtin.Dict.showsAll
    rw [if_neg (by rw [D.sys]; exact Bool.false_ne_true)]
    refine wpAny_bind (wpAny_pure ?_)
    refine wpAny_bind (wpAny_dictEpoch hod rfl ?_)
    refine wpAny_bind (wpAny_dictEntries hod rfl ?_)
    refine wpAny_bind ?_
    rw [Std.Legacy.Range.forIn_eq_forIn_range']
    simp only [Std.Legacy.Range.size, Nat.sub_zero, Nat.add_sub_cancel, Nat.div_one]
    refine wpAny_forIn_list _
      (fun rest' r s' => ∃ i tk, rest' = List.range' i (es.size - i) ∧ i ≤ es.size ∧ r = (⟨((rs.map rowText).take i).toArray, 0 + piled ((rs.map rowText).take i)⟩ : (Array Str × Nat)) ∧ s' = { s with toks := tk })
      _ ?_ ?_ _ _ ⟨0, s.toks, by simp, Nat.zero_le _, by simp [piled], rfl⟩
    · rintro x rest' _ s' ⟨i, tk, hr, hi, rfl, rfl⟩
      have hlt : i < es.size := by
        rcases Nat.lt_or_ge i es.size with h | h
        · exact h
        · rw [Nat.sub_eq_zero_of_le h] at hr; simp at hr
      obtain ⟨rfl, hrest⟩ : x = i ∧ rest' = List.range' (i + 1) (es.size - (i + 1)) := by
        have e : es.size - i = (es.size - (i + 1)) + 1 := by omega
        rw [e, List.range'_succ] at hr
        injection hr with h1 h2
        exact ⟨h1, h2⟩
      obtain ⟨k, t, v, u, he⟩ := R.ent es[x] (Array.mem_toList_iff.mpr (Array.getElem_mem hlt))
      have hrx : rs[x]? = some (k, v) := by
        rw [← R.rows, List.getElem?_map]
        have : es.toList[x]? = some es[x] := by simp [hlt]
        rw [this, he]; rfl
      have hok : OkR (k, v) := R.ok.ok _ (List.mem_of_getElem? hrx)
      have hp : (rs.map rowText)[x]? = some (rowText (k, v)) := by rw [List.getElem?_map, hrx]; rfl
      have hp1 := piled_take_succ hp
      have hp2 := piled_take_le (rs.map rowText) x
      have kl : (reprText k).length ≤ 3 := key_len hok.1
      have vl : ((toString v : String) : Str).length ≤ 1 := val_len hok.2.1 hok.2.2
      have hrl : (rowText (k, v)).length = (reprText k).length + 2 + ((toString v : String) : Str).length := by
        unfold rowText; rw [strLen_append, strLen_append]; rfl
      refine wpAny_bind (wpAny_dictEntries hod rfl ?_)
      rw [Array.getElem?_eq_getElem hlt, he]
      refine wpAny_bind (wpAny_holding (wpAny_bind (ReprIs.str k t (by rw [sizeLine_eq]; omega) (0 + piled ((rs.map rowText).take x) + 1) (by rw [sizeLine_eq]; omega) _ _ _ _ fun t1 =>
        wpAny_bind (ReprIs.int (a := v) u (val_log (v := v) hok.2.1 hok.2.2) (0 + piled ((rs.map rowText).take x) + ((reprText k).length + 3)) (by rw [sizeLine_eq]; omega) _ _ _ _ fun t2 => wpAny_pure ?_))))
      refine wpAny_bind (wpAny_dictEpoch hod rfl ?_)
      rw [if_neg (by simp)]
      have e1 : ((rs.map rowText).take x).toArray.push (reprText k ++ ": " ++ (toString v : String)) = ((rs.map rowText).take (x + 1)).toArray := by
        rw [List.take_add_one, hp]
        simp [rowText]
      have e2 : 0 + piled ((rs.map rowText).take x) + ((reprText k).length + ((toString v : String) : Str).length + 4) = 0 + piled ((rs.map rowText).take (x + 1)) := by omega
      refine wpAny_pure ⟨x + 1, t2, hrest, hlt, ?_, rfl⟩
      rw [e1, e2]
    · rintro _ s' ⟨i, tk, hr, hi, rfl, rfl⟩
      have hin : i = es.size := by
        rcases Nat.lt_or_ge i es.size with h | h
        · have e : es.size - i = (es.size - (i + 1)) + 1 := by omega
          rw [e, List.range'_succ] at hr; exact nomatch hr
        · exact Nat.le_antisymm hi h
      rw [hin, ← hlen, List.take_of_length_le (by simp)]
      refine wpAny_bind (wpAny_mkStr (wpAny_pure ?_) (by have := hz; unfold rowsText dictText at this; rw [sizeLine_eq]; simpa using Nat.le_trans this (by decide)))
      have h1 := h tk (tk + 1)
      simpa [rowsText, dictText] using h1
  simp only [checkBuiltinCall, hsp, hk]
  refine wpAny_bind ((D.isDict B).here ?_)
  simp only [Bool.not_true, Bool.false_eq_true, if_false]
  have ha := PySem.F.args_dict_repr_1 (.ref a)
  cases hsig : Manifest.signature? "dict.__repr__" with
  | none => exact wpAny_pure (body _)
  | some sig =>
    simp only [argsOk, hsig] at ha
    have h2 : Bind.checkArgs "dict.__repr__" sig ⟨[.ref a], []⟩ = pure () := ha
    show wpAny _ _ (Bind.checkArgs "dict.__repr__" sig ⟨[.ref a], []⟩) _ _ _
    rw [h2]; exact wpAny_pure (body _)
end
end Mine

set_option Elab.async false
set_option maxRecDepth 100000
set_option maxHeartbeats 8000000
set_option linter.unusedVariables false
open PySem PySem.W PyProof.Rows PySem.Calls
namespace Mine

local macro_rules | `(tactic| walk_at "m_s") => `(tactic| first
  | with_reducible refine wpAny_execs_cons ?_
  | with_reducible refine wpAny_execs_nil ?_
  | with_reducible refine wpAny_If ?_
  | with_reducible refine wpAny_Return_some ?_
  | ((with_reducible refine wpAny_Assign_Name ?_ ?hs); (case hs => with_unfolding_all rfl))
  | ((with_reducible refine wpAny_Assign_Subscript ?_ ?hs); (case hs => with_unfolding_all rfl))
  | with_reducible refine wpAny_BinOp ?_
  | ((with_reducible refine wpAny_Compare1 ?_ ?hm); (case hm => with_unfolding_all rfl))
  | ((with_reducible refine wpAny_isTrue_Compare1 ?_ ?hm); (case hm => with_unfolding_all rfl))
  | with_reducible refine wpAny_Constant_int ?_
  | with_reducible refine Constant_str ?_
  | with_reducible refine Constant_bool ?_
  | with_reducible refine Constant_none ?_
  | with_reducible refine Subscript_ ?_
  | with_reducible refine wpAny_truthy_bool ?_
  | ((with_reducible refine' nL (by assumption) (by assumption) (by assumption) ?hv ?_ ?hd); (case hd => decide); (case hv => first | assumption | with_unfolding_all rfl)))

theorem code93 (P : Params) : codeIn (hd.heap_39 P) (fdAt (hd.heap_39 P) 93).code (fdAt (hd.heap_39 P) 93).qualname = true := by kernel_rfl
theorem obj93 (P : Params) : List.lookup 93 (hd.heap_39 P) = some ⟨.type "function", none, .func (fdAt (hd.heap_39 P) 93), #[]⟩ := by kernel_rfl
theorem bind93 (P : Params) (v1 : Value) : bindArgs (fdAt (hd.heap_39 P) 93) ⟨[v1], []⟩ = pure [(Str.ofString "self", v1)] := by kernel_rfl
theorem cell93 (P : Params) : ((fdAt (hd.heap_39 P) 93).scope.names.all fun x => x.2 != .cell) = true := by kernel_rfl
theorem scope93 (P : Params) : ((fdAt (hd.heap_39 P) 93).scope.isCoroutine, (fdAt (hd.heap_39 P) 93).scope.isGenerator, (fdAt (hd.heap_39 P) 93).scope.kind, (fdAt (hd.heap_39 P) 93).globals, (fdAt (hd.heap_39 P) 93).builtins) = (false, false, .function, mainGlobals, builtinsNs) := by kernel_rfl
theorem code121 (P : Params) : codeIn (hd.heap_39 P) (fdAt (hd.heap_39 P) 121).code (fdAt (hd.heap_39 P) 121).qualname = true := by kernel_rfl
theorem obj121 (P : Params) : List.lookup 121 (hd.heap_39 P) = some ⟨.type "function", none, .func (fdAt (hd.heap_39 P) 121), #[]⟩ := by kernel_rfl
theorem bind121 (P : Params) (v1 : Value) : bindArgs (fdAt (hd.heap_39 P) 121) ⟨[v1], []⟩ = pure [(Str.ofString "self", v1)] := by kernel_rfl
theorem cell121 (P : Params) : ((fdAt (hd.heap_39 P) 121).scope.names.all fun x => x.2 != .cell) = true := by kernel_rfl
theorem scope121 (P : Params) : ((fdAt (hd.heap_39 P) 121).scope.isCoroutine, (fdAt (hd.heap_39 P) 121).scope.isGenerator, (fdAt (hd.heap_39 P) 121).scope.kind, (fdAt (hd.heap_39 P) 121).globals, (fdAt (hd.heap_39 P) 121).builtins) = (false, false, .function, mainGlobals, builtinsNs) := by kernel_rfl
theorem find_reprI (P : Params) : findIn (hd.heap_39 P) (clsV true) "__repr__" = some (some (.ref 93)) ∧ findIn (hd.heap_39 P) (clsV true) "copy" = some (some (.ref 121)) := by constructor <;> kernel_rfl
theorem find_reprD (P : Params) : findIn (hd.heap_39 P) (clsV false) "__repr__" = some (some (.builtin "dict.__repr__")) := by kernel_rfl
theorem type_items (P : Params) : typeIn (hd.heap_39 P) (.builtin "dict.items") = some (.type "method_descriptor") := by kernel_rfl

def imText (rs : Rw) : Str := ("immutabledict(" : Str) ++ rowsText rs ++ ")"

section
variable {w : World} {A : Around} {E : Value → Shared → Prop} {s : Shared}

theorem reprIm_spec {n : Nat} {a : Addr} {rs : Rw} {R : Result → Shared → Prop} (O : Ok A (n + 1)) (B : Base w s.heap) (D : Rows w true s.heap a rs)
    (h : ∀ u h' t', Le s.heap h' → R (.ok (.ret (.str (imText rs) u))) { s with heap := h', toks := t' }) :
    codeAny (model Pg w) A (.call (.ref 93) ⟨[.ref a], []⟩) R s := by
  refine callFn O B (obj93 w.params) (code93 w.params) rfl (bind93 w.params (.ref a)) (cell93 w.params) (by kernel_rfl) (scope93 w.params) ?_
  intro env L h₀ he EE hL S₀ O'
  have k1 : env.kindOf (Str.ofString "self") = some .local := by subst he; rfl
  have k2 : env.kindOf (Str.ofString "dict") = some .globalImplicit := by subst he; rfl
  clear he
  have B₀ := S₀.base B
  obtain ⟨es, ep, D', R'⟩ := D.keeps S₀.keep
  have hz := rowsText_len R'.ok
  refine wpAny_execs_cons (wpAny_Return_some (JoinedStr_many ?_))
  refine joinParts_cons ?_
  repeat walk_at "m_s"
  refine ⟨by rw [sizeLine_eq]; decide, ?_⟩
  refine joinParts_cons ?_
  refine FormattedValue_plain ?_
  refine mCall1 (nB EE B₀ k2 (notMine_of "dict" (by decide)) boots.2.2.2.1 (by decide) (method_dict rfl find_repr (cwB1 ?_)))
  repeat walk_at "m_s"
  refine repr_D (s := { s with heap := h₀, toks := _ }) B₀ D' R' O'.guards fun u tk => ?_
  refine formatField_str (fun t' tk => ?_) (by rw [sizeLine_eq]; omega)
  have l1 : ((Str.empty ++ ("immutabledict(" : Str)) ++ rowsText rs).length ≤ 60 := by
    rw [strLen_append]; have : (Str.empty ++ ("immutabledict(" : Str)).length = 14 := by decide +kernel
    omega
  refine ⟨by rw [sizeLine_eq]; exact Nat.le_trans l1 (by decide), ?_⟩
  refine joinParts_cons ?_
  repeat walk_at "m_s"
  have l2 : (((Str.empty ++ ("immutabledict(" : Str)) ++ rowsText rs) ++ (")" : Str)).length ≤ 61 := by
    rw [strLen_append]; have : ((")" : String) : Str).length = 1 := rfl
    omega
  refine ⟨by rw [sizeLine_eq]; exact Nat.le_trans l2 (by decide), ?_⟩
  refine joinParts_nil ?_ (by rw [sizeLine_eq]; exact Nat.le_trans l2 (by decide))
  have e : Str.empty ++ ("immutabledict(" : Str) = ("immutabledict(" : Str) := by decide +kernel
  rw [e]
  exact h _ _ _ S₀.keep

theorem copy_spec {n : Nat} {a : Addr} {R : Result → Shared → Prop} (O : Ok A (n + 1)) (B : Base w s.heap) (h : ∀ h' t', Le s.heap h' → R (.ok (.ret (.ref a))) { s with heap := h', toks := t' }) :
    codeAny (model Pg w) A (.call (.ref 121) ⟨[.ref a], []⟩) R s := by
  refine callFn O B (obj121 w.params) (code121 w.params) rfl (bind121 w.params (.ref a)) (cell121 w.params) (by kernel_rfl) (scope121 w.params) ?_
  intro env L h₀ he EE hL S₀ O'
  have k1 : env.kindOf (Str.ofString "self") = some .local := by subst he; rfl
  clear he
  repeat walk_at "m_s"
  exact h _ _ S₀.keep

theorem repr_im {n : Nat} {a : Addr} {rs : Rw} {Q : Value → Shared → Prop} (O : Ok A (n + 2)) (B : Base w s.heap) (D : Rows w true s.heap a rs)
    (h : ∀ u h' t', Le s.heap h' → Q (.str (imText rs) u) { s with heap := h', toks := t' }) : wpAny (model Pg w) A (call (.builtin "repr") [.ref a]) Q E s := by
  obtain ⟨es, ep, D', R'⟩ := id D
  obtain ⟨dx, I⟩ := D'.inst
  refine Calls.call_function_entry PySem.F.kind_repr PySem.F.plain_repr PySem.F.entry_repr (PySem.F.args_repr1 _) ?_
  unfold Builtin.«repr»
  refine wpAny_bind (m := oneArg "repr" _) (wpAny_pure ?_)
  refine wpAny_bind (wpAny_cRoomFor (O.in1.line) ?_)
  refine wpAny_bind (wpAny_bind (I.type.here ((looks_findIn B.k (find_reprI w.params).1).here ?_)))
  show wpAny _ _ (if (some (Value.ref 93)).isNone = true then _ else _) _ _ _
  rw [if_neg (by simp)]
  refine wpAny_bind (m := callSpecialIfBound? (.ref a) (Str.ofString "__repr__") _) (ifBound_K B.k I (find_reprI w.params).1 (by exact beq_iff_eq.mpr (fn_of 93 (by decide)).1) (wpAny_call (reprIm_spec O.in1 B D fun u h' t' k => ?_)))
  refine wpAny_bind (wpAny_isInstance (typeIs_str _ _ _) isSubtype_str_str ?_)
  exact wpAny_pure ⟨_, rfl, h u h' t' k⟩

theorem repr_dict {n : Nat} {a : Addr} {rs : Rw} {Q : Value → Shared → Prop} (O : Ok A (n + 2)) (B : Base w s.heap) (D : Rows w false s.heap a rs)
    (h : ∀ u t', Q (.str (rowsText rs) u) { s with toks := t' }) : wpAny (model Pg w) A (call (.builtin "repr") [.ref a]) Q E s := by
  obtain ⟨es, ep, D', R'⟩ := id D
  obtain ⟨_, dd, ho, _⟩ := id D'
  have hT : s.TypeIs (.ref a) "dict" := ⟨_, ho, rfl⟩
  refine Calls.call_function_entry PySem.F.kind_repr PySem.F.plain_repr PySem.F.entry_repr (PySem.F.args_repr1 _) ?_
  unfold Builtin.«repr»
  refine wpAny_bind (m := oneArg "repr" _) (wpAny_pure ?_)
  refine wpAny_bind (wpAny_cRoomFor (O.in1.line) ?_)
  refine wpAny_bind (wpAny_specialOf (name := Str.ofString "__repr__") hT PySem.F.slot_dict_repr.lookup ?_)
  refine wpAny_bind (m := callSpecialIfBound? (.ref a) (Str.ofString "__repr__")) (wpAny_callSpecialIfBound?_slotG (name := Str.ofString "__repr__") hT PySem.F.slot_dict_repr (repr_D B D' R' O.in1.guards fun u tk => ?_))
  refine wpAny_bind (wpAny_isInstance (typeIs_str _ _ _) isSubtype_str_str ?_)
  exact wpAny_pure ⟨_, rfl, h u tk⟩
end
end Mine

set_option Elab.async false
set_option maxRecDepth 100000
set_option maxHeartbeats 8000000
set_option linter.unusedVariables false
open PySem PySem.W PyProof.Rows PySem.Calls
namespace Mine

local macro_rules | `(tactic| walk_at "m_s") => `(tactic| first
  | with_reducible refine wpAny_execs_cons ?_
  | with_reducible refine wpAny_execs_nil ?_
  | with_reducible refine wpAny_If ?_
  | with_reducible refine wpAny_Return_some ?_
  | ((with_reducible refine wpAny_Assign_Name ?_ ?hs); (case hs => with_unfolding_all rfl))
  | ((with_reducible refine wpAny_Assign_Subscript ?_ ?hs); (case hs => with_unfolding_all rfl))
  | with_reducible refine wpAny_BinOp ?_
  | ((with_reducible refine wpAny_Compare1 ?_ ?hm); (case hm => with_unfolding_all rfl))
  | ((with_reducible refine wpAny_isTrue_Compare1 ?_ ?hm); (case hm => with_unfolding_all rfl))
  | with_reducible refine wpAny_Constant_int ?_
  | with_reducible refine Constant_str ?_
  | with_reducible refine Constant_bool ?_
  | with_reducible refine Constant_none ?_
  | with_reducible refine Subscript_ ?_
  | with_reducible refine wpAny_truthy_bool ?_
  | ((with_reducible refine' nL (by assumption) (by assumption) (by assumption) ?hv ?_ ?hd); (case hd => decide); (case hv => first | assumption | with_unfolding_all rfl)))

theorem code182 (P : Params) : codeIn (hd.heap_39 P) (fdAt (hd.heap_39 P) 182).code (fdAt (hd.heap_39 P) 182).qualname = true := by kernel_rfl
theorem obj182 (P : Params) : List.lookup 182 (hd.heap_39 P) = some ⟨.type "function", none, .func (fdAt (hd.heap_39 P) 182), #[]⟩ := by kernel_rfl
theorem bind182 (P : Params) (v1 v2 : Value) : bindArgs (fdAt (hd.heap_39 P) 182) ⟨[v1, v2], []⟩ = pure [(Str.ofString "one", v1), (Str.ofString "rows", v2)] := by kernel_rfl
theorem cell182 (P : Params) : ((fdAt (hd.heap_39 P) 182).scope.names.all fun x => x.2 != .cell) = true := by kernel_rfl
theorem scope182 (P : Params) : ((fdAt (hd.heap_39 P) 182).scope.isCoroutine, (fdAt (hd.heap_39 P) 182).scope.isGenerator, (fdAt (hd.heap_39 P) 182).scope.kind, (fdAt (hd.heap_39 P) 182).globals, (fdAt (hd.heap_39 P) 182).builtins) = (false, false, .function, mainGlobals, builtinsNs) := by kernel_rfl

section
variable {w : World} {A : Around} {E : Value → Shared → Prop} {s : Shared}

/-- _law_shown(one, rows) where both have the same rows -/
theorem shown_spec {n : Nat} {a b : Addr} {rs : Rw} {R : Result → Shared → Prop} (O : Ok A (n + 3)) (B : Base w s.heap) (D : Rows w true s.heap a rs) (D' : Rows w false s.heap b rs)
    (h : ∀ h' t', Le s.heap h' → R (.ok (.ret (.bool true))) { s with heap := h', toks := t' }) :
    codeAny (model Pg w) A (.call (.ref 182) ⟨[.ref a, .ref b], []⟩) R s := by
  refine callFn O B (obj182 w.params) (code182 w.params) rfl (bind182 w.params (.ref a) (.ref b)) (cell182 w.params) (by kernel_rfl) (scope182 w.params) ?_
  intro env L h₀ he EE hL S₀ O'
  have k1 : env.kindOf (Str.ofString "one") = some .local := by subst he; rfl
  have k2 : env.kindOf (Str.ofString "rows") = some .local := by subst he; rfl
  have k3 : env.kindOf (Str.ofString "list") = some .globalImplicit := by subst he; rfl
  have k4 : env.kindOf (Str.ofString "repr") = some .globalImplicit := by subst he; rfl
  clear he
  generalize hg : s.heap = g at *
  obtain ⟨es, ep, Da, Ra⟩ := id D
  obtain ⟨es', ep', Db, Rb⟩ := id D'
  refine wpAny_execs_cons (wpAny_Return_some ?_)
  refine BoolOp_and ?_
  refine wpAny_Compare1 ?_ (by with_unfolding_all rfl)
  -- list(one.items())
  have B₀ := S₀.base B
  refine Call_Name1 (nB EE B₀ k3 (notMine_of "list" (by decide)) boots.2.2.2.2.2.1 (by decide) (cwT1 ?_)) rfl
  refine mCall0 (nL EE S₀ k1 rfl (method_D B₀ (Da.keeps S₀.keep) (find_items w.params true) (type_items w.params) (by decide) (cwB0 ?_)))
  refine items_D B₀ (Da.keeps S₀.keep) ?_
  have S₁ := S₀.push (viewObj a)
  have hv₁ : (h₀.push (viewObj a)).get? h₀.objs.size = some (viewObj a) := Heap.get?_push_size _ rfl
  refine list_items (es := es) (ep := ep) O'.handled hv₁ ((Da.keeps S₁.keep).entAt) Ra.size_le fun l₁ h₂ tk₂ acc₁ c₁ hl₁ hT₁ kk₂ => ?_
  have S₂ : St g L _ [] h₂ := S₁.le kk₂
  have B₂ := S₂.base B
  dsimp only
  -- list(rows.items())
  refine Call_Name1 (nB EE B₂ k3 (notMine_of "list" (by decide)) boots.2.2.2.2.2.1 (by decide) (cwT1 ?_)) rfl
  refine mCall0 (nL EE S₂ k2 rfl (method_D B₂ (Db.keeps S₂.keep) (find_items w.params false) (type_items w.params) (by decide) (cwB0 ?_)))
  refine items_D B₂ (Db.keeps S₂.keep) ?_
  have S₃ := S₂.push (viewObj b)
  have hv₃ : (h₂.push (viewObj b)).get? h₂.objs.size = some (viewObj b) := Heap.get?_push_size _ rfl
  refine list_items (es := es') (ep := ep') O'.handled hv₃ ((Db.keeps S₃.keep).entAt) Rb.size_le fun l₂ h₄ tk₄ acc₂ c₂ hl₂ hT₂ kk₄ => ?_
  have S₄ : St g L _ [] h₄ := S₃.le kk₄
  have B₄ := S₄.base B
  have k24 : Le h₂ h₄ := fun b o e => kk₄ _ _ (Le.push h₂ (viewObj _) _ _ e)
  dsimp only
  refine eq_items (s := { s with heap := h₄, toks := tk₄ }) ⟨_, k24 _ _ hl₁, rfl, _, rfl⟩ ⟨_, hl₂, rfl, _, rfl⟩ (hT₁.keeps k24) hT₂ Ra Rb (by have := O'.units; omega) ?_
  refine wpAny_truthy_bool ?_
  show wpAny _ _ (eval (.BoolOp _ _ _) _) _ _ _
  refine BoolOp_and ?_
  refine wpAny_Compare1 ?_ (by with_unfolding_all rfl)
  refine Call_Name1 (nB EE B₄ k4 (notMine_of "repr" (by decide)) boots.2.2.2.2.2.2.1 (by decide) (cwB1 ?_)) rfl
  refine nL EE S₄ k1 rfl ?_
  refine repr_im O' B₄ (D.keeps S₄.keep) fun u h₅ t₅ k₅ => ?_
  have S₅ : St g L _ [] h₅ := S₄.le k₅
  have B₅ := S₅.base B
  dsimp only
  refine wpAny_BinOp ?_
  refine wpAny_BinOp ?_
  refine Constant_str ?_
  refine Call_Name1 (nB EE B₅ k4 (notMine_of "repr" (by decide)) boots.2.2.2.2.2.2.1 (by decide) (cwB1 ?_)) rfl
  refine nL EE S₅ k2 rfl ?_
  refine repr_dict O' B₅ (D'.keeps S₅.keep) fun u₂ t₆ => ?_
  have hz := rowsText_len Ra.ok
  have hne : (rowsText rs).length ≠ 0 := by
    unfold rowsText dictText; rw [strLen_append, strLen_append]; have : ((("{" : String) : Str)).length = 1 := rfl; omega
  have h14 : ((("immutabledict(" : String) : Str)).length = 14 := rfl
  have l1 : ((("immutabledict(" : String) : Str) ++ rowsText rs).length = 14 + (rowsText rs).length := by rw [strLen_append]; rfl
  refine P.add_str ?_
  rw [if_neg (by rw [h14]; decide), if_neg (by simpa using hne)]
  refine ⟨by rw [sizeLine_eq, l1]; omega, ?_⟩
  refine Constant_str ?_
  refine P.add_str ?_
  rw [if_neg (by rw [l1]; simp), if_neg (by decide)]
  refine ⟨by rw [sizeLine_eq, strLen_append, l1]; have : (((")" : String) : Str)).length = 1 := rfl
             omega, ?_⟩
  refine P.eq_str ?_
  rw [show (imText rs).cps.toList == (((("immutabledict(" : String) : Str) ++ rowsText rs) ++ ((")" : String) : Str)).cps.toList from by rw [imText]; exact beq_self_eq_true _]
  refine wpAny_truthy_bool ?_
  show wpAny _ _ (eval (.BoolOp _ _ _) _) _ _ _
  refine BoolOp_one ?_
  refine wpAny_Compare1 ?_ (by with_unfolding_all rfl)
  refine mCall0 (nL EE S₅ k1 rfl (method_D B₅ (Da.keeps S₅.keep) (find_reprI w.params).2 (fn_of 121 (by decide)).1 (by decide) (cwK0 (w := w) B₅ (fn_of 121 (by decide)).2.1 (wpAny_call ?_))))
  refine copy_spec O' B₅ fun h₇ t₇ k₇ => ?_
  dsimp only
  refine nL EE (S₅.le k₇) k1 rfl ?_
  refine wpAny_is_ref_self ?_
  exact h _ _ (S₅.le k₇).keep
end
end Mine

set_option Elab.async false
set_option maxRecDepth 100000
set_option maxHeartbeats 8000000
set_option linter.unusedVariables false
open PySem PySem.W PyProof.Rows PySem.Calls
namespace Mine

local macro_rules | `(tactic| walk_at "m_s") => `(tactic| first
  | with_reducible refine wpAny_execs_cons ?_
  | with_reducible refine wpAny_execs_nil ?_
  | with_reducible refine wpAny_If ?_
  | with_reducible refine wpAny_Return_some ?_
  | ((with_reducible refine wpAny_Assign_Name ?_ ?hs); (case hs => with_unfolding_all rfl))
  | ((with_reducible refine wpAny_Assign_Subscript ?_ ?hs); (case hs => with_unfolding_all rfl))
  | with_reducible refine wpAny_BinOp ?_
  | ((with_reducible refine wpAny_Compare1 ?_ ?hm); (case hm => with_unfolding_all rfl))
  | ((with_reducible refine wpAny_isTrue_Compare1 ?_ ?hm); (case hm => with_unfolding_all rfl))
  | with_reducible refine wpAny_Constant_int ?_
  | with_reducible refine Constant_str ?_
  | with_reducible refine Constant_bool ?_
  | with_reducible refine Constant_none ?_
  | with_reducible refine Subscript_ ?_
  | with_reducible refine wpAny_truthy_bool ?_
  | ((with_reducible refine' nL (by assumption) (by assumption) (by assumption) ?hv ?_ ?hd); (case hd => decide); (case hv => first | assumption | with_unfolding_all rfl)))
open Builtin Builtin.ObjectAttr Builtin.Getset_descriptor
theorem slot145n (P : Params) : ∃ o, List.lookup 145 (hd.heap_39 P) = some o ∧ (o.slots[2]?).join = some (.str (Str.ofString "immutabledict") 196) := ⟨_, rfl, rfl⟩
theorem reads145 (P : Params) : readsIn (hd.heap_39 P) 145 (.type "type") = true := by kernel_rfl
theorem find_name (P : Params) : findCls (hd.heap_39 P) (.ref 145) (.type "type") "__name__" = some (.get (.builtin "getset_descriptor.__get__") (.builtin "type.__name__") (.ref 145) (.type "type")) := by kernel_rfl
theorem mro_obj (P : Params) : mroIn (hd.heap_39 P) 145 (.type "object") = some true := by kernel_rfl
theorem type145 (P : Params) : typeIn (hd.heap_39 P) (.ref 145) = some (.type "type") := by kernel_rfl

section
variable {w : World} {A : Around} {E : Value → Shared → Prop} {s : Shared} {prog : Program}

theorem attr_class_im {a : Addr} {es : Array DictEntry} {ep : Nat} {expr : Bool} {Q : Value → Shared → Prop} (B : Base w s.heap) (D : DAt true s.heap a es ep) (h : Q (.ref 145) { s with toks := s.toks + 1 }) :
    wpAny (model prog w) A (getAttr (.ref a) "__class__" expr) Q E s := by
  obtain ⟨dx, I⟩ := D.inst
  unfold getAttr
  refine wpAny_bind (wpAny_mkText ?_)
  refine getAttrBy_im (s := { s with toks := s.toks + 1 }) B D (attr_class w.params) (wpAny_call (class_get (s := { s with toks := s.toks + 1 }) B.k I (mro_obj w.params) ⟨rfl, h⟩))

theorem name_get {tp : Value} {R : Result → Shared → Prop} (B : Base w s.heap) (h : R (.ok (.ret (.str (Str.ofString "immutabledict") 196))) s) :
    codeAny (model prog w) A (.call (.builtin "getset_descriptor.__get__") ⟨[.builtin "type.__name__", .ref 145, tp], []⟩) R s := by
  obtain ⟨o, e, es⟩ := slot145n w.params
  have h145 := B.k _ _ e
  obtain ⟨hh, g, dr, t, os⟩ := s
  have L0 : Looks (model prog w) hh (typeOf (.ref 145)) (.type "type") := looks_typeIn B.k (type145 w.params)
  have L1 : Looks (model prog w) hh (isSubtype (.type "type") (.type "type")) true := Looks.of_pure (by rw [isSubtype_type]; kernel_rfl)
  refine codeAny_call_builtin KF.slot_gs.plain KF.entry_gs (KF.slot_gs.check _ _ _ _ _ _ _ _ ktyn_type (KF.args_gs _ _ _) ?_)
  unfold Builtin.«getset_descriptor.__get__» descrGet
  rw [dga_obj]
  refine wpAny_bind (wpAny_pure ?_)
  unfold descrGetter descrCheckInstance descrNameAndClass isInstance
  simp only [ktyn_owner]
  repeat lk
  refine ⟨Code.quiet_builtin _ (by decide +kernel), codeAny_builtin ktyn_entry ?_⟩
  unfold Builtin.«type.__name__»
  show wpAny _ _ (keptObject (.ref 145) 2 "__name__" _) _ _ _
  unfold keptObject slotAt
  refine wpAny_bind (wpAny_bind (wpAny_loadPart h145 ?_))
  rw [es]
  refine wpAny_pure (wpAny_bind (wpAny_pure ?_))
  exact wpAny_pure h

theorem attr_name_im {expr : Bool} {Q : Value → Shared → Prop} (B : Base w s.heap) (h : Q (.str (Str.ofString "immutabledict") 196) { s with toks := s.toks + 1 }) : wpAny (model prog w) A (getAttr (.ref 145) "__name__" expr) Q E s :=
  cls_bind B.k (reads145 w.params) (find_name w.params) (wpAny_call (name_get (s := { s with toks := s.toks + 1 }) B (handed_on rfl h)))
end
end Mine

set_option Elab.async false
set_option maxRecDepth 100000
set_option maxHeartbeats 8000000
set_option linter.unusedVariables false
open PySem PySem.W PyProof.Rows PySem.Calls
namespace Mine

local macro_rules | `(tactic| walk_at "m_s") => `(tactic| first
  | with_reducible refine wpAny_execs_cons ?_
  | with_reducible refine wpAny_execs_nil ?_
  | with_reducible refine wpAny_If ?_
  | with_reducible refine wpAny_Return_some ?_
  | ((with_reducible refine wpAny_Assign_Name ?_ ?hs); (case hs => with_unfolding_all rfl))
  | ((with_reducible refine wpAny_Assign_Subscript ?_ ?hs); (case hs => with_unfolding_all rfl))
  | with_reducible refine wpAny_BinOp ?_
  | ((with_reducible refine wpAny_Compare1 ?_ ?hm); (case hm => with_unfolding_all rfl))
  | ((with_reducible refine wpAny_isTrue_Compare1 ?_ ?hm); (case hm => with_unfolding_all rfl))
  | with_reducible refine wpAny_Constant_int ?_
  | with_reducible refine Constant_str ?_
  | with_reducible refine Constant_bool ?_
  | with_reducible refine Constant_none ?_
  | with_reducible refine Subscript_ ?_
  | with_reducible refine wpAny_truthy_bool ?_
  | ((with_reducible refine' nL (by assumption) (by assumption) (by assumption) ?hv ?_ ?hd); (case hd => decide); (case hv => first | assumption | with_unfolding_all rfl)))
open PySem.Heap

/-- where a raise may land: frames, a frozen part off them -/
structure Fl (w : World) (A : Around) (base : Heap) (outer : List Env) (h : Heap) : Prop where
  fr : A.frames = some outer
  le : Le base h
  ff : h.FunFrames base outer
  B : Base w base

theorem Fl.leH {w : World} {A : Around} {base : Heap} {outer : List Env} {h h' : Heap} (X : Fl w A base outer h) (k : Le h h') : Fl w A base outer h' :=
  ⟨X.fr, fun b o e => k _ _ (X.le _ _ e), X.ff.of_keeps fun b o e _ => ⟨o, k _ _ e, rfl⟩, X.B⟩
theorem Fl.none {w : World} {A : Around} {base : Heap} {outer : List Env} {h : Heap} (X : Fl w A base outer h) {b : Addr} (e : h.get? b = .none) : base.get? b = .none := by
  cases q : base.get? b with
  | none => rfl
  | some o => rw [X.le _ _ q] at e; cases e
theorem Fl.push {w : World} {A : Around} {base : Heap} {outer : List Env} {h h' : Heap} {env : Env} {L : Addr} {m} (X : Fl w A base outer h) (k : Le h h') (hk : env.scope.kind = .function) (hf : env.frame = some L) (hn : h'.Ns L m) (n : h.get? L = .none) :
    Fl w (A.deeper env) base (env :: outer) h' :=
  ⟨Around.frames_deeper X.fr, (X.leH k).le, .cons (by rw [hk]; decide) hf hn (X.none n) (X.leH k).ff, X.B⟩

abbrev tErr : Value := .type "TypeError"

section
variable {w : World} {A : Around} {E : Value → Shared → Prop} {s : Shared}

/-- a call of one of the text's own defs that raises -/
theorem callE {n : Nat} {a : Addr} {fd : FuncData} {body : List Stmt} {args : Args} {R : Result → Shared → Prop} (O : Ok A (n + 1)) (B : Base w s.heap)
    (ho : List.lookup a (KK w) = some ⟨.type "function", none, .func fd, #[]⟩) (hcode : codeIn (KK w) fd.code fd.qualname = true) (hbody : fd.body = .stmts body)
    (hcell : (fd.scope.names.all fun x => x.2 != .cell) = true)
    (hsc : (fd.scope.isCoroutine, fd.scope.isGenerator, fd.scope.kind, fd.globals, fd.builtins) = (false, false, .function, mainGlobals, builtinsNs))
    (h : ∀ (E : Value → Shared → Prop), wpAny (model Pg w) A.in1 (bindArgs fd args) (fun binds s₁ => (∃ h₁ t₁, s₁ = { s with heap := h₁, toks := t₁ } ∧ Le s.heap h₁) ∧ (binds.all fun x => fd.scope.names.lookup x.1 == some .local) = true ∧
      ∀ env L h₀ tk, env = callEnv fd L a → EF env L → env.frame = some L → s.heap.get? L = none → St s.heap L (fun x => binds.reverse.lookup x) [] h₀ → Ok (A.deeper env) n →
        wpAny (model Pg w) (A.deeper env) (execs body env) (fun _ _ => False) (fun e s' => wpAny (model Pg w) (A.deeper env) (leaving env e) (fun _ s'' => R (.error e) s'') (fun e' s'' => R (.error e') s'') s') { s with heap := h₀, toks := tk }) E s) :
    codeAny (model Pg w) A (.call (.ref a) args) R s := by
  obtain ⟨hco, hgen, hk, hg, hb⟩ : fd.scope.isCoroutine = false ∧ fd.scope.isGenerator = false ∧ fd.scope.kind = .function ∧ fd.globals = mainGlobals ∧ fd.builtins = builtinsNs := by
    simp only [Prod.mk.injEq] at hsc; exact hsc
  have hcell' : ∀ x ∈ fd.scope.names, x.2 ≠ .cell := fun x hx e => by
    have := List.all_eq_true.mp hcell x hx; rw [e] at this; cases this
  refine codeAny_call_function O.room (B.k _ _ ho) rfl hco hgen hbody (codeRec_of B.k hcode) (wpAny_mono (h _) (fun binds s₁ z => ?_) fun _ _ e => e)
  obtain ⟨⟨h₁, t₁, rfl, k1⟩, hloc, z⟩ := z
  refine wpAny_newFunctionEnv hcell' (fun x hx => by simpa using List.all_eq_true.mp hloc x hx) (fun h₀ hns₀ hsb₀ => ?_) hk
  dsimp only at hns₀ hsb₀ ⊢
  have k2 : Le h₁ h₀ := fun b o e => hsb₀.extBut b o (Nat.ne_of_lt (Heap.lt_size e)) (Heap.get?_push_of_some _ e)
  have kk : Le s.heap h₀ := fun b o e => k2 _ _ (k1 _ _ e)
  have hn : h₁.get? h₁.objs.size = none := get_none_ge (Nat.le_refl _)
  have hn1 : s.heap.get? h₁.objs.size = none := by
    cases q : s.heap.get? h₁.objs.size with
    | none => rfl
    | some o => rw [k1 _ _ q] at hn; cases hn
  refine ⟨(B.keeps kk).lim, codeAny_func ?_⟩
  exact wpAny_mono (z (callEnv fd _ a) _ h₀ _ rfl ⟨hk, rfl, hg, hb⟩ rfl hn1 ⟨hns₀, kk, hn1, fun _ q => (nomatch q)⟩ (O.deeper _)) (fun _ _ q => q.elim) fun _ _ q => q

theorem code21 (P : Params) : codeIn (hd.heap_39 P) (fdAt (hd.heap_39 P) 21).code (fdAt (hd.heap_39 P) 21).qualname = true := by kernel_rfl
theorem obj21 (P : Params) : List.lookup 21 (hd.heap_39 P) = some ⟨.type "function", none, .func (fdAt (hd.heap_39 P) 21), #[]⟩ := by kernel_rfl
theorem bind21 (P : Params) (v1 : Value) : bindArgs (fdAt (hd.heap_39 P) 21) ⟨[v1], []⟩ = pure [(Str.ofString "obj", v1)] := by kernel_rfl
theorem cell21 (P : Params) : ((fdAt (hd.heap_39 P) 21).scope.names.all fun x => x.2 != .cell) = true := by kernel_rfl
theorem scope21 (P : Params) : ((fdAt (hd.heap_39 P) 21).scope.isCoroutine, (fdAt (hd.heap_39 P) 21).scope.isGenerator, (fdAt (hd.heap_39 P) 21).scope.kind, (fdAt (hd.heap_39 P) 21).globals, (fdAt (hd.heap_39 P) 21).builtins) = (false, false, .function, mainGlobals, builtinsNs) := by kernel_rfl
theorem loc21 (P : Params) (v : Value) : (([(Str.ofString "obj", v)] : List (Str × Value)).all fun x => (fdAt (hd.heap_39 P) 21).scope.names.lookup x.1 == some .local) = true := by kernel_rfl

/-- _immutable_fn(obj) raises TypeError -/
theorem imm_raises {n : Nat} {c : Addr} {rs : Rw} {base : Heap} {outer : List Env} {R : Result → Shared → Prop} (O : Ok A (n + 1)) (X : Fl w A base outer s.heap) (D : Rows w true base c rs)
    (h : ∀ e t h' tk, Heap.FlyingW base outer e tErr (.ref t) h' → s.heap.UpToSlots h' → R (.error (.ref e)) { s with heap := h', toks := tk }) :
    codeAny (model Pg w) A (.call (.ref 21) ⟨[.ref c], []⟩) R s := by
  have B := X.B.keeps X.le
  have hbd : (fdAt (KK w) 21).body = .stmts _ := rfl
  have ho := obj21 w.params
  have hc := code21 w.params
  have hce := cell21 w.params
  have hs := scope21 w.params
  have hb := bind21 w.params (.ref c)
  have hl := loc21 w.params (.ref c)
  refine callE (fd := fdAt (KK w) 21) O B ho hc hbd hce hs fun E' => ?_
  rw [hb]
  refine wpAny_pure ⟨⟨_, _, rfl, fun _ _ e => e⟩, hl, ?_⟩
  intro env L h₀ tk he EE hf hL S₀ O'
  have k1 : env.kindOf (Str.ofString "obj") = some .local := by subst he; rfl
  have k2 : env.kindOf (Str.ofString "TypeError") = some .globalImplicit := by subst he; rfl
  clear he
  have X' := X.push S₀.keep EE.kind hf S₀.ns hL
  have B₀ := S₀.base B
  obtain ⟨es, ep, D', _⟩ := id ((D.keeps X.le).keeps S₀.keep)
  refine wpAny_execs_cons ?_
  refine Raise_madeB PySem.F.excCall_TypeError PySem.F.excRaise_TypeError O'.handled ?_
  refine nB EE B₀ k2 (notMine_of "TypeError" (by decide)) boots.2.2.2.2.2.2.2 (by decide) ⟨rfl, ?_⟩
  refine spliced_cons ?_
  refine JoinedStr_many (pos := default) ?_
  refine joinParts_cons ?_
  refine FormattedValue_plain ?_
  refine Attribute_any_ ?_
  refine Attribute_name ?_
  refine nL EE S₀ k1 rfl ?_
  refine attr_class_im B₀ D' ?_
  refine attr_name_im (s := { s with heap := h₀, toks := _ }) B₀ ?_
  refine formatField_str (fun t' tk' => ?_) (by rw [sizeLine_eq]; decide)
  refine ⟨by rw [sizeLine_eq]; decide, ?_⟩
  refine joinParts_cons ?_
  repeat walk_at "m_s"
  refine ⟨by rw [sizeLine_eq]; decide, ?_⟩
  refine joinParts_nil ?_ (by rw [sizeLine_eq]; decide)
  refine spliced_nil ?_
  refine ⟨by rw [sizeLine_eq]; exact (by decide : (1 : Nat) ≤ 16777216), fun h₁ e M => ?_⟩
  dsimp only at M ⊢
  refine wpAny_leaves_madeW (h := h₀) X'.fr hf X'.le X'.ff (MadeExc.of M) fun h₂ t F _ _ U => ?_
  exact h e t h₂ _ F (((UpToSlots.of_keeps S₀.keep).trans (UpToSlots.of_keeps M.keeps)).trans U)

/-- a method whose body calls _immutable_fn(self) -/
theorem refuse {n : Nat} {a c : Addr} {fd : FuncData} {rs : Rw} {args : Args} {base : Heap} {outer : List Env} {R : Result → Shared → Prop} {p1 p2 p3 p4 : Pos} (O : Ok A (n + 2)) (X : Fl w A base outer s.heap) (D : Rows w true base c rs)
    (ho : List.lookup a (KK w) = some ⟨.type "function", none, .func fd, #[]⟩) (hcode : codeIn (KK w) fd.code fd.qualname = true)
    (hbody : fd.body = .stmts [.Expr (.Call (.Name (Str.ofString "_immutable_fn") p1) [.Name (Str.ofString "self") p2] [] p3) p4])
    (hcell : (fd.scope.names.all fun x => x.2 != .cell) = true)
    (hsc : (fd.scope.isCoroutine, fd.scope.isGenerator, fd.scope.kind, fd.globals, fd.builtins) = (false, false, .function, mainGlobals, builtinsNs))
    (hn : fd.scope.names.lookup (Str.ofString "self") = some .local ∧ fd.scope.names.lookup (Str.ofString "_immutable_fn") = some .globalImplicit)
    (hb : ∀ (E : Value → Shared → Prop), wpAny (model Pg w) A.in1 (bindArgs fd args) (fun binds s₁ => (∃ h₁ t₁, s₁ = { s with heap := h₁, toks := t₁ } ∧ Le s.heap h₁) ∧ (binds.all fun x => fd.scope.names.lookup x.1 == some .local) = true ∧ binds.reverse.lookup (Str.ofString "self") = some (.ref c)) E s)
    (h : ∀ e t h' tk, Heap.FlyingW base outer e tErr (.ref t) h' → s.heap.UpToSlots h' → R (.error (.ref e)) { s with heap := h', toks := tk }) :
    codeAny (model Pg w) A (.call (.ref a) args) R s := by
  refine callE O (X.B.keeps X.le) ho hcode hbody hcell hsc fun E' => wpAny_mono (hb E') (fun binds s₁ z => ⟨z.1, z.2.1, ?_⟩) fun _ _ e => e
  intro env L h₀ tk he EE hf hL S₀ O'
  have k1 : env.kindOf (Str.ofString "self") = some .local := by subst he; exact hn.1
  have k2 : env.kindOf (Str.ofString "_immutable_fn") = some .globalImplicit := by subst he; exact hn.2
  have ki : interactive env = false := by
    have hk := EE.kind
    unfold interactive; rw [hk]; rfl
  clear he
  have X' := X.push S₀.keep EE.kind hf S₀.ns hL
  have B₀ := X'.B.keeps X'.le
  refine wpAny_execs_cons (wpAny_Expr_any (hi := ki) ?_)
  refine Call_Name1 (nK EE B₀ k2 (gName w.params).2.2.2.2.2.2 (cwK1 (w := w) (keepF_of 21 (by decide)) ?_) (by decide)) rfl
  refine nL EE S₀ k1 z.2.2 ⟨B₀, wpAny_call ?_⟩
  refine imm_raises (O'.mono (m := n + 1) (by omega)) X' D fun e t h₁ t₁ F U => ?_
  dsimp only
  refine wpAny_leaves_onW X'.fr hf F fun h₂ F₂ U₂ => ?_
  exact h e t h₂ _ F₂ (((UpToSlots.of_keeps S₀.keep).trans U).trans U₂)
end
end Mine

set_option Elab.async false
set_option maxRecDepth 100000
set_option maxHeartbeats 8000000
set_option linter.unusedVariables false
open PySem PySem.W PyProof.Rows PySem.Calls
namespace Mine

theorem code42 (P : Params) : codeIn (hd.heap_39 P) (fdAt (hd.heap_39 P) 42).code (fdAt (hd.heap_39 P) 42).qualname = true := by kernel_rfl
theorem obj42 (P : Params) : List.lookup 42 (hd.heap_39 P) = some ⟨.type "function", none, .func (fdAt (hd.heap_39 P) 42), #[]⟩ := by kernel_rfl
theorem cell42 (P : Params) : ((fdAt (hd.heap_39 P) 42).scope.names.all fun x => x.2 != .cell) = true := by kernel_rfl
theorem scope42 (P : Params) : ((fdAt (hd.heap_39 P) 42).scope.isCoroutine, (fdAt (hd.heap_39 P) 42).scope.isGenerator, (fdAt (hd.heap_39 P) 42).scope.kind, (fdAt (hd.heap_39 P) 42).globals, (fdAt (hd.heap_39 P) 42).builtins) = (false, false, .function, mainGlobals, builtinsNs) := by kernel_rfl
theorem look42 (P : Params) : (fdAt (hd.heap_39 P) 42).scope.names.lookup (Str.ofString "self") = some .local ∧ (fdAt (hd.heap_39 P) 42).scope.names.lookup (Str.ofString "_immutable_fn") = some .globalImplicit := by constructor <;> kernel_rfl
theorem bind42 (P : Params) (c : Addr) (v1 v2 : Value) : bindArgs (fdAt (hd.heap_39 P) 42) ⟨[.ref c, v1, v2], []⟩ = pure [(Str.ofString "self", Value.ref c), (Str.ofString "key", v1), (Str.ofString "value", v2)] := by kernel_rfl
theorem loc42 (P : Params) (c : Addr) (v1 v2 : Value) : (([(Str.ofString "self", Value.ref c), (Str.ofString "key", v1), (Str.ofString "value", v2)] : List (Str × Value)).all fun x => (fdAt (hd.heap_39 P) 42).scope.names.lookup x.1 == some .local) = true := by kernel_rfl
theorem slf42 (c : Addr) (v1 v2 : Value) : ([(Str.ofString "self", Value.ref c), (Str.ofString "key", v1), (Str.ofString "value", v2)] : List (Str × Value)).reverse.lookup (Str.ofString "self") = some (.ref c) := by kernel_rfl
theorem ref42 {w : World} {A : Around} {s : Shared} {n : Nat} {c : Addr} {rs : Rw} {base : Heap} {outer : List Env} {R : Result → Shared → Prop} {v1 v2 : Value} (O : Ok A (n + 2)) (X : Fl w A base outer s.heap) (D : Rows w true base c rs)
    (h : ∀ e t h' tk, Heap.FlyingW base outer e tErr (.ref t) h' → s.heap.UpToSlots h' → R (.error (.ref e)) { s with heap := h', toks := tk }) : codeAny (model Pg w) A (.call (.ref 42) ⟨[.ref c, v1, v2], []⟩) R s := by
  have ho := obj42 w.params
  have hc := code42 w.params
  have hce := cell42 w.params
  have hs := scope42 w.params
  have hn := look42 w.params
  have hb := bind42 w.params c v1 v2
  have hl := loc42 w.params c v1 v2
  have hf := slf42 c v1 v2
  have hbd : (fdAt (KK w) 42).body = .stmts _ := rfl
  refine refuse (fd := fdAt (KK w) 42) O X D ho hc hbd hce hs hn (fun E => ?_) h
  rw [hb]
  exact wpAny_pure ⟨⟨_, _, rfl, fun _ _ e => e⟩, hl, hf⟩

theorem code35 (P : Params) : codeIn (hd.heap_39 P) (fdAt (hd.heap_39 P) 35).code (fdAt (hd.heap_39 P) 35).qualname = true := by kernel_rfl
theorem obj35 (P : Params) : List.lookup 35 (hd.heap_39 P) = some ⟨.type "function", none, .func (fdAt (hd.heap_39 P) 35), #[]⟩ := by kernel_rfl
theorem cell35 (P : Params) : ((fdAt (hd.heap_39 P) 35).scope.names.all fun x => x.2 != .cell) = true := by kernel_rfl
theorem scope35 (P : Params) : ((fdAt (hd.heap_39 P) 35).scope.isCoroutine, (fdAt (hd.heap_39 P) 35).scope.isGenerator, (fdAt (hd.heap_39 P) 35).scope.kind, (fdAt (hd.heap_39 P) 35).globals, (fdAt (hd.heap_39 P) 35).builtins) = (false, false, .function, mainGlobals, builtinsNs) := by kernel_rfl
theorem look35 (P : Params) : (fdAt (hd.heap_39 P) 35).scope.names.lookup (Str.ofString "self") = some .local ∧ (fdAt (hd.heap_39 P) 35).scope.names.lookup (Str.ofString "_immutable_fn") = some .globalImplicit := by constructor <;> kernel_rfl
theorem bind35 (P : Params) (c : Addr) (v1 : Value) : bindArgs (fdAt (hd.heap_39 P) 35) ⟨[.ref c, v1], []⟩ = pure [(Str.ofString "self", Value.ref c), (Str.ofString "key", v1)] := by kernel_rfl
theorem loc35 (P : Params) (c : Addr) (v1 : Value) : (([(Str.ofString "self", Value.ref c), (Str.ofString "key", v1)] : List (Str × Value)).all fun x => (fdAt (hd.heap_39 P) 35).scope.names.lookup x.1 == some .local) = true := by kernel_rfl
theorem slf35 (c : Addr) (v1 : Value) : ([(Str.ofString "self", Value.ref c), (Str.ofString "key", v1)] : List (Str × Value)).reverse.lookup (Str.ofString "self") = some (.ref c) := by kernel_rfl
theorem ref35 {w : World} {A : Around} {s : Shared} {n : Nat} {c : Addr} {rs : Rw} {base : Heap} {outer : List Env} {R : Result → Shared → Prop} {v1 : Value} (O : Ok A (n + 2)) (X : Fl w A base outer s.heap) (D : Rows w true base c rs)
    (h : ∀ e t h' tk, Heap.FlyingW base outer e tErr (.ref t) h' → s.heap.UpToSlots h' → R (.error (.ref e)) { s with heap := h', toks := tk }) : codeAny (model Pg w) A (.call (.ref 35) ⟨[.ref c, v1], []⟩) R s := by
  have ho := obj35 w.params
  have hc := code35 w.params
  have hce := cell35 w.params
  have hs := scope35 w.params
  have hn := look35 w.params
  have hb := bind35 w.params c v1
  have hl := loc35 w.params c v1
  have hf := slf35 c v1
  have hbd : (fdAt (KK w) 35).body = .stmts _ := rfl
  refine refuse (fd := fdAt (KK w) 35) O X D ho hc hbd hce hs hn (fun E => ?_) h
  rw [hb]
  exact wpAny_pure ⟨⟨_, _, rfl, fun _ _ e => e⟩, hl, hf⟩

theorem code49 (P : Params) : codeIn (hd.heap_39 P) (fdAt (hd.heap_39 P) 49).code (fdAt (hd.heap_39 P) 49).qualname = true := by kernel_rfl
theorem obj49 (P : Params) : List.lookup 49 (hd.heap_39 P) = some ⟨.type "function", none, .func (fdAt (hd.heap_39 P) 49), #[]⟩ := by kernel_rfl
theorem cell49 (P : Params) : ((fdAt (hd.heap_39 P) 49).scope.names.all fun x => x.2 != .cell) = true := by kernel_rfl
theorem scope49 (P : Params) : ((fdAt (hd.heap_39 P) 49).scope.isCoroutine, (fdAt (hd.heap_39 P) 49).scope.isGenerator, (fdAt (hd.heap_39 P) 49).scope.kind, (fdAt (hd.heap_39 P) 49).globals, (fdAt (hd.heap_39 P) 49).builtins) = (false, false, .function, mainGlobals, builtinsNs) := by kernel_rfl
theorem look49 (P : Params) : (fdAt (hd.heap_39 P) 49).scope.names.lookup (Str.ofString "self") = some .local ∧ (fdAt (hd.heap_39 P) 49).scope.names.lookup (Str.ofString "_immutable_fn") = some .globalImplicit := by constructor <;> kernel_rfl
theorem bind49 (P : Params) (c : Addr) (v1 v2 : Value) : bindArgs (fdAt (hd.heap_39 P) 49) ⟨[.ref c, v1, v2], []⟩ = pure [(Str.ofString "self", Value.ref c), (Str.ofString "key", v1), (Str.ofString "value", v2)] := by kernel_rfl
theorem loc49 (P : Params) (c : Addr) (v1 v2 : Value) : (([(Str.ofString "self", Value.ref c), (Str.ofString "key", v1), (Str.ofString "value", v2)] : List (Str × Value)).all fun x => (fdAt (hd.heap_39 P) 49).scope.names.lookup x.1 == some .local) = true := by kernel_rfl
theorem slf49 (c : Addr) (v1 v2 : Value) : ([(Str.ofString "self", Value.ref c), (Str.ofString "key", v1), (Str.ofString "value", v2)] : List (Str × Value)).reverse.lookup (Str.ofString "self") = some (.ref c) := by kernel_rfl
theorem ref49 {w : World} {A : Around} {s : Shared} {n : Nat} {c : Addr} {rs : Rw} {base : Heap} {outer : List Env} {R : Result → Shared → Prop} {v1 v2 : Value} (O : Ok A (n + 2)) (X : Fl w A base outer s.heap) (D : Rows w true base c rs)
    (h : ∀ e t h' tk, Heap.FlyingW base outer e tErr (.ref t) h' → s.heap.UpToSlots h' → R (.error (.ref e)) { s with heap := h', toks := tk }) : codeAny (model Pg w) A (.call (.ref 49) ⟨[.ref c, v1, v2], []⟩) R s := by
  have ho := obj49 w.params
  have hc := code49 w.params
  have hce := cell49 w.params
  have hs := scope49 w.params
  have hn := look49 w.params
  have hb := bind49 w.params c v1 v2
  have hl := loc49 w.params c v1 v2
  have hf := slf49 c v1 v2
  have hbd : (fdAt (KK w) 49).body = .stmts _ := rfl
  refine refuse (fd := fdAt (KK w) 49) O X D ho hc hbd hce hs hn (fun E => ?_) h
  rw [hb]
  exact wpAny_pure ⟨⟨_, _, rfl, fun _ _ e => e⟩, hl, hf⟩

theorem code56 (P : Params) : codeIn (hd.heap_39 P) (fdAt (hd.heap_39 P) 56).code (fdAt (hd.heap_39 P) 56).qualname = true := by kernel_rfl
theorem obj56 (P : Params) : List.lookup 56 (hd.heap_39 P) = some ⟨.type "function", none, .func (fdAt (hd.heap_39 P) 56), #[]⟩ := by kernel_rfl
theorem cell56 (P : Params) : ((fdAt (hd.heap_39 P) 56).scope.names.all fun x => x.2 != .cell) = true := by kernel_rfl
theorem scope56 (P : Params) : ((fdAt (hd.heap_39 P) 56).scope.isCoroutine, (fdAt (hd.heap_39 P) 56).scope.isGenerator, (fdAt (hd.heap_39 P) 56).scope.kind, (fdAt (hd.heap_39 P) 56).globals, (fdAt (hd.heap_39 P) 56).builtins) = (false, false, .function, mainGlobals, builtinsNs) := by kernel_rfl
theorem look56 (P : Params) : (fdAt (hd.heap_39 P) 56).scope.names.lookup (Str.ofString "self") = some .local ∧ (fdAt (hd.heap_39 P) 56).scope.names.lookup (Str.ofString "_immutable_fn") = some .globalImplicit := by constructor <;> kernel_rfl
theorem bind56 (P : Params) (c : Addr) : bindArgs (fdAt (hd.heap_39 P) 56) ⟨[.ref c], []⟩ = pure [(Str.ofString "self", Value.ref c)] := by kernel_rfl
theorem loc56 (P : Params) (c : Addr) : (([(Str.ofString "self", Value.ref c)] : List (Str × Value)).all fun x => (fdAt (hd.heap_39 P) 56).scope.names.lookup x.1 == some .local) = true := by kernel_rfl
theorem slf56 (c : Addr) : ([(Str.ofString "self", Value.ref c)] : List (Str × Value)).reverse.lookup (Str.ofString "self") = some (.ref c) := by kernel_rfl
theorem ref56 {w : World} {A : Around} {s : Shared} {n : Nat} {c : Addr} {rs : Rw} {base : Heap} {outer : List Env} {R : Result → Shared → Prop}  (O : Ok A (n + 2)) (X : Fl w A base outer s.heap) (D : Rows w true base c rs)
    (h : ∀ e t h' tk, Heap.FlyingW base outer e tErr (.ref t) h' → s.heap.UpToSlots h' → R (.error (.ref e)) { s with heap := h', toks := tk }) : codeAny (model Pg w) A (.call (.ref 56) ⟨[.ref c], []⟩) R s := by
  have ho := obj56 w.params
  have hc := code56 w.params
  have hce := cell56 w.params
  have hs := scope56 w.params
  have hn := look56 w.params
  have hb := bind56 w.params c
  have hl := loc56 w.params c
  have hf := slf56 c
  have hbd : (fdAt (KK w) 56).body = .stmts _ := rfl
  refine refuse (fd := fdAt (KK w) 56) O X D ho hc hbd hce hs hn (fun E => ?_) h
  rw [hb]
  exact wpAny_pure ⟨⟨_, _, rfl, fun _ _ e => e⟩, hl, hf⟩

theorem code71 (P : Params) : codeIn (hd.heap_39 P) (fdAt (hd.heap_39 P) 71).code (fdAt (hd.heap_39 P) 71).qualname = true := by kernel_rfl
theorem obj71 (P : Params) : List.lookup 71 (hd.heap_39 P) = some ⟨.type "function", none, .func (fdAt (hd.heap_39 P) 71), #[]⟩ := by kernel_rfl
theorem cell71 (P : Params) : ((fdAt (hd.heap_39 P) 71).scope.names.all fun x => x.2 != .cell) = true := by kernel_rfl
theorem scope71 (P : Params) : ((fdAt (hd.heap_39 P) 71).scope.isCoroutine, (fdAt (hd.heap_39 P) 71).scope.isGenerator, (fdAt (hd.heap_39 P) 71).scope.kind, (fdAt (hd.heap_39 P) 71).globals, (fdAt (hd.heap_39 P) 71).builtins) = (false, false, .function, mainGlobals, builtinsNs) := by kernel_rfl
theorem look71 (P : Params) : (fdAt (hd.heap_39 P) 71).scope.names.lookup (Str.ofString "self") = some .local ∧ (fdAt (hd.heap_39 P) 71).scope.names.lookup (Str.ofString "_immutable_fn") = some .globalImplicit := by constructor <;> kernel_rfl
theorem bind71 (P : Params) (c : Addr) : bindArgs (fdAt (hd.heap_39 P) 71) ⟨[.ref c], []⟩ = pure [(Str.ofString "self", Value.ref c)] := by kernel_rfl
theorem loc71 (P : Params) (c : Addr) : (([(Str.ofString "self", Value.ref c)] : List (Str × Value)).all fun x => (fdAt (hd.heap_39 P) 71).scope.names.lookup x.1 == some .local) = true := by kernel_rfl
theorem slf71 (c : Addr) : ([(Str.ofString "self", Value.ref c)] : List (Str × Value)).reverse.lookup (Str.ofString "self") = some (.ref c) := by kernel_rfl
theorem ref71 {w : World} {A : Around} {s : Shared} {n : Nat} {c : Addr} {rs : Rw} {base : Heap} {outer : List Env} {R : Result → Shared → Prop}  (O : Ok A (n + 2)) (X : Fl w A base outer s.heap) (D : Rows w true base c rs)
    (h : ∀ e t h' tk, Heap.FlyingW base outer e tErr (.ref t) h' → s.heap.UpToSlots h' → R (.error (.ref e)) { s with heap := h', toks := tk }) : codeAny (model Pg w) A (.call (.ref 71) ⟨[.ref c], []⟩) R s := by
  have ho := obj71 w.params
  have hc := code71 w.params
  have hce := cell71 w.params
  have hs := scope71 w.params
  have hn := look71 w.params
  have hb := bind71 w.params c
  have hl := loc71 w.params c
  have hf := slf71 c
  have hbd : (fdAt (KK w) 71).body = .stmts _ := rfl
  refine refuse (fd := fdAt (KK w) 71) O X D ho hc hbd hce hs hn (fun E => ?_) h
  rw [hb]
  exact wpAny_pure ⟨⟨_, _, rfl, fun _ _ e => e⟩, hl, hf⟩

theorem code128 (P : Params) : codeIn (hd.heap_39 P) (fdAt (hd.heap_39 P) 128).code (fdAt (hd.heap_39 P) 128).qualname = true := by kernel_rfl
theorem obj128 (P : Params) : List.lookup 128 (hd.heap_39 P) = some ⟨.type "function", none, .func (fdAt (hd.heap_39 P) 128), #[]⟩ := by kernel_rfl
theorem cell128 (P : Params) : ((fdAt (hd.heap_39 P) 128).scope.names.all fun x => x.2 != .cell) = true := by kernel_rfl
theorem scope128 (P : Params) : ((fdAt (hd.heap_39 P) 128).scope.isCoroutine, (fdAt (hd.heap_39 P) 128).scope.isGenerator, (fdAt (hd.heap_39 P) 128).scope.kind, (fdAt (hd.heap_39 P) 128).globals, (fdAt (hd.heap_39 P) 128).builtins) = (false, false, .function, mainGlobals, builtinsNs) := by kernel_rfl
theorem look128 (P : Params) : (fdAt (hd.heap_39 P) 128).scope.names.lookup (Str.ofString "self") = some .local ∧ (fdAt (hd.heap_39 P) 128).scope.names.lookup (Str.ofString "_immutable_fn") = some .globalImplicit := by constructor <;> kernel_rfl
theorem bind128 (P : Params) (c : Addr) (v1 : Value) : bindArgs (fdAt (hd.heap_39 P) 128) ⟨[.ref c, v1], []⟩ = pure [(Str.ofString "self", Value.ref c), (Str.ofString "value", v1)] := by kernel_rfl
theorem loc128 (P : Params) (c : Addr) (v1 : Value) : (([(Str.ofString "self", Value.ref c), (Str.ofString "value", v1)] : List (Str × Value)).all fun x => (fdAt (hd.heap_39 P) 128).scope.names.lookup x.1 == some .local) = true := by kernel_rfl
theorem slf128 (c : Addr) (v1 : Value) : ([(Str.ofString "self", Value.ref c), (Str.ofString "value", v1)] : List (Str × Value)).reverse.lookup (Str.ofString "self") = some (.ref c) := by kernel_rfl
theorem ref128 {w : World} {A : Around} {s : Shared} {n : Nat} {c : Addr} {rs : Rw} {base : Heap} {outer : List Env} {R : Result → Shared → Prop} {v1 : Value} (O : Ok A (n + 2)) (X : Fl w A base outer s.heap) (D : Rows w true base c rs)
    (h : ∀ e t h' tk, Heap.FlyingW base outer e tErr (.ref t) h' → s.heap.UpToSlots h' → R (.error (.ref e)) { s with heap := h', toks := tk }) : codeAny (model Pg w) A (.call (.ref 128) ⟨[.ref c, v1], []⟩) R s := by
  have ho := obj128 w.params
  have hc := code128 w.params
  have hce := cell128 w.params
  have hs := scope128 w.params
  have hn := look128 w.params
  have hb := bind128 w.params c v1
  have hl := loc128 w.params c v1
  have hf := slf128 c v1
  have hbd : (fdAt (KK w) 128).body = .stmts _ := rfl
  refine refuse (fd := fdAt (KK w) 128) O X D ho hc hbd hce hs hn (fun E => ?_) h
  rw [hb]
  exact wpAny_pure ⟨⟨_, _, rfl, fun _ _ e => e⟩, hl, hf⟩

theorem code64 (P : Params) : codeIn (hd.heap_39 P) (fdAt (hd.heap_39 P) 64).code (fdAt (hd.heap_39 P) 64).qualname = true := by kernel_rfl
theorem obj64 (P : Params) : List.lookup 64 (hd.heap_39 P) = some ⟨.type "function", none, .func (fdAt (hd.heap_39 P) 64), #[]⟩ := by kernel_rfl
theorem cell64 (P : Params) : ((fdAt (hd.heap_39 P) 64).scope.names.all fun x => x.2 != .cell) = true := by kernel_rfl
theorem scope64 (P : Params) : ((fdAt (hd.heap_39 P) 64).scope.isCoroutine, (fdAt (hd.heap_39 P) 64).scope.isGenerator, (fdAt (hd.heap_39 P) 64).scope.kind, (fdAt (hd.heap_39 P) 64).globals, (fdAt (hd.heap_39 P) 64).builtins) = (false, false, .function, mainGlobals, builtinsNs) := by kernel_rfl
theorem look64 (P : Params) : (fdAt (hd.heap_39 P) 64).scope.names.lookup (Str.ofString "self") = some .local ∧ (fdAt (hd.heap_39 P) 64).scope.names.lookup (Str.ofString "_immutable_fn") = some .globalImplicit := by constructor <;> kernel_rfl
theorem dflt64 (P : Params) (c : Addr) (v1 : Value) (S : Setting) : peek (hd.heap_39 P) S (bindArgs (fdAt (hd.heap_39 P) 64) ⟨[.ref c, v1], []⟩) = some [(Str.ofString "self", Value.ref c), (Str.ofString "key", v1), (Str.ofString "default", .none)] := by kernel_rfl
theorem loc64 (P : Params) (c : Addr) (v1 : Value) : (([(Str.ofString "self", Value.ref c), (Str.ofString "key", v1), (Str.ofString "default", .none)] : List (Str × Value)).all fun x => (fdAt (hd.heap_39 P) 64).scope.names.lookup x.1 == some .local) = true := by kernel_rfl
theorem slf64 (c : Addr) (v1 : Value) : ([(Str.ofString "self", Value.ref c), (Str.ofString "key", v1), (Str.ofString "default", .none)] : List (Str × Value)).reverse.lookup (Str.ofString "self") = some (.ref c) := by kernel_rfl
theorem ref64 {w : World} {A : Around} {s : Shared} {n : Nat} {c : Addr} {rs : Rw} {base : Heap} {outer : List Env} {R : Result → Shared → Prop} {v1 : Value} (O : Ok A (n + 2)) (X : Fl w A base outer s.heap) (D : Rows w true base c rs)
    (h : ∀ e t h' tk, Heap.FlyingW base outer e tErr (.ref t) h' → s.heap.UpToSlots h' → R (.error (.ref e)) { s with heap := h', toks := tk }) : codeAny (model Pg w) A (.call (.ref 64) ⟨[.ref c, v1], []⟩) R s := by
  have ho := obj64 w.params
  have hc := code64 w.params
  have hce := cell64 w.params
  have hs := scope64 w.params
  have hn := look64 w.params
  have hl := loc64 w.params c v1
  have hf := slf64 c v1
  have hbd : (fdAt (KK w) 64).body = .stmts _ := rfl
  have hb : BindsTo s (fdAt (KK w) 64) ⟨[.ref c, v1], []⟩ [(Str.ofString "self", Value.ref c), (Str.ofString "key", v1), (Str.ofString "default", .none)] := kp_binds (X.B.keeps X.le).k (dflt64 w.params c v1)
  refine refuse (fd := fdAt (KK w) 64) O X D ho hc hbd hce hs hn (fun E => hb _ _ _ _ ?_) h
  exact ⟨⟨_, _, rfl, fun _ _ e => e⟩, hl, hf⟩

theorem code79 (P : Params) : codeIn (hd.heap_39 P) (fdAt (hd.heap_39 P) 79).code (fdAt (hd.heap_39 P) 79).qualname = true := by kernel_rfl
theorem obj79 (P : Params) : List.lookup 79 (hd.heap_39 P) = some ⟨.type "function", none, .func (fdAt (hd.heap_39 P) 79), #[]⟩ := by kernel_rfl
theorem cell79 (P : Params) : ((fdAt (hd.heap_39 P) 79).scope.names.all fun x => x.2 != .cell) = true := by kernel_rfl
theorem scope79 (P : Params) : ((fdAt (hd.heap_39 P) 79).scope.isCoroutine, (fdAt (hd.heap_39 P) 79).scope.isGenerator, (fdAt (hd.heap_39 P) 79).scope.kind, (fdAt (hd.heap_39 P) 79).globals, (fdAt (hd.heap_39 P) 79).builtins) = (false, false, .function, mainGlobals, builtinsNs) := by kernel_rfl
theorem look79 (P : Params) : (fdAt (hd.heap_39 P) 79).scope.names.lookup (Str.ofString "self") = some .local ∧ (fdAt (hd.heap_39 P) 79).scope.names.lookup (Str.ofString "_immutable_fn") = some .globalImplicit := by constructor <;> kernel_rfl
theorem dflt79 (P : Params) (c : Addr) (v1 v2 : Value) (S : Setting) : peek (hd.heap_39 P) S (bindArgs (fdAt (hd.heap_39 P) 79) ⟨[.ref c, v1, v2], []⟩) = some [(Str.ofString "self", Value.ref c), (Str.ofString "key", v1), (Str.ofString "default", v2)] := by kernel_rfl
theorem loc79 (P : Params) (c : Addr) (v1 v2 : Value) : (([(Str.ofString "self", Value.ref c), (Str.ofString "key", v1), (Str.ofString "default", v2)] : List (Str × Value)).all fun x => (fdAt (hd.heap_39 P) 79).scope.names.lookup x.1 == some .local) = true := by kernel_rfl
theorem slf79 (c : Addr) (v1 v2 : Value) : ([(Str.ofString "self", Value.ref c), (Str.ofString "key", v1), (Str.ofString "default", v2)] : List (Str × Value)).reverse.lookup (Str.ofString "self") = some (.ref c) := by kernel_rfl
theorem ref79 {w : World} {A : Around} {s : Shared} {n : Nat} {c : Addr} {rs : Rw} {base : Heap} {outer : List Env} {R : Result → Shared → Prop} {v1 v2 : Value} (O : Ok A (n + 2)) (X : Fl w A base outer s.heap) (D : Rows w true base c rs)
    (h : ∀ e t h' tk, Heap.FlyingW base outer e tErr (.ref t) h' → s.heap.UpToSlots h' → R (.error (.ref e)) { s with heap := h', toks := tk }) : codeAny (model Pg w) A (.call (.ref 79) ⟨[.ref c, v1, v2], []⟩) R s := by
  have ho := obj79 w.params
  have hc := code79 w.params
  have hce := cell79 w.params
  have hs := scope79 w.params
  have hn := look79 w.params
  have hl := loc79 w.params c v1 v2
  have hf := slf79 c v1 v2
  have hbd : (fdAt (KK w) 79).body = .stmts _ := rfl
  have hb : BindsTo s (fdAt (KK w) 79) ⟨[.ref c, v1, v2], []⟩ [(Str.ofString "self", Value.ref c), (Str.ofString "key", v1), (Str.ofString "default", v2)] := kp_binds (X.B.keeps X.le).k (dflt79 w.params c v1 v2)
  refine refuse (fd := fdAt (KK w) 79) O X D ho hc hbd hce hs hn (fun E => hb _ _ _ _ ?_) h
  exact ⟨⟨_, _, rfl, fun _ _ e => e⟩, hl, hf⟩

end Mine

set_option Elab.async false
set_option maxRecDepth 100000
set_option maxHeartbeats 8000000
set_option linter.unusedVariables false
open PySem PySem.W PyProof.Rows PySem.Calls
namespace Mine

local macro_rules | `(tactic| walk_at "m_s") => `(tactic| first
  | with_reducible refine wpAny_execs_cons ?_
  | with_reducible refine wpAny_execs_nil ?_
  | with_reducible refine wpAny_If ?_
  | with_reducible refine wpAny_Return_some ?_
  | ((with_reducible refine wpAny_Assign_Name ?_ ?hs); (case hs => with_unfolding_all rfl))
  | ((with_reducible refine wpAny_Assign_Subscript ?_ ?hs); (case hs => with_unfolding_all rfl))
  | with_reducible refine wpAny_BinOp ?_
  | ((with_reducible refine wpAny_Compare1 ?_ ?hm); (case hm => with_unfolding_all rfl))
  | ((with_reducible refine wpAny_isTrue_Compare1 ?_ ?hm); (case hm => with_unfolding_all rfl))
  | with_reducible refine wpAny_Constant_int ?_
  | with_reducible refine Constant_str ?_
  | with_reducible refine Constant_bool ?_
  | with_reducible refine Constant_none ?_
  | with_reducible refine Subscript_ ?_
  | with_reducible refine wpAny_truthy_bool ?_
  | ((with_reducible refine' nL (by assumption) (by assumption) (by assumption) ?hv ?_ ?hd); (case hd => decide); (case hv => first | assumption | with_unfolding_all rfl)))
theorem code86 (P : Params) : codeIn (hd.heap_39 P) (fdAt (hd.heap_39 P) 86).code (fdAt (hd.heap_39 P) 86).qualname = true := by kernel_rfl
theorem obj86 (P : Params) : List.lookup 86 (hd.heap_39 P) = some ⟨.type "function", none, .func (fdAt (hd.heap_39 P) 86), #[]⟩ := by kernel_rfl
theorem cell86 (P : Params) : ((fdAt (hd.heap_39 P) 86).scope.names.all fun x => x.2 != .cell) = true := by kernel_rfl
theorem scope86 (P : Params) : ((fdAt (hd.heap_39 P) 86).scope.isCoroutine, (fdAt (hd.heap_39 P) 86).scope.isGenerator, (fdAt (hd.heap_39 P) 86).scope.kind, (fdAt (hd.heap_39 P) 86).globals, (fdAt (hd.heap_39 P) 86).builtins) = (false, false, .function, mainGlobals, builtinsNs) := by kernel_rfl
theorem look86 (P : Params) : (fdAt (hd.heap_39 P) 86).scope.names.lookup (Str.ofString "self") = some .local ∧ (fdAt (hd.heap_39 P) 86).scope.names.lookup (Str.ofString "_immutable_fn") = some .globalImplicit := by constructor <;> kernel_rfl

theorem code175 (P : Params) : codeIn (hd.heap_39 P) (fdAt (hd.heap_39 P) 175).code (fdAt (hd.heap_39 P) 175).qualname = true := by kernel_rfl
theorem obj175 (P : Params) : List.lookup 175 (hd.heap_39 P) = some ⟨.type "function", none, .func (fdAt (hd.heap_39 P) 175), #[]⟩ := by kernel_rfl
theorem cell175 (P : Params) : ((fdAt (hd.heap_39 P) 175).scope.names.all fun x => x.2 != .cell) = true := by kernel_rfl
theorem scope175 (P : Params) : ((fdAt (hd.heap_39 P) 175).scope.isCoroutine, (fdAt (hd.heap_39 P) 175).scope.isGenerator, (fdAt (hd.heap_39 P) 175).scope.kind, (fdAt (hd.heap_39 P) 175).globals, (fdAt (hd.heap_39 P) 175).builtins) = (false, false, .function, mainGlobals, builtinsNs) := by kernel_rfl

theorem bind86 (P : Params) (c : Addr) (v : Value) : bindArgs (fdAt (hd.heap_39 P) 86) ⟨[.ref c, v], []⟩ = newTuple [v] >>= fun t => alloc { cls := .type "dict", data := .dict #[] } >>= fun d => pure [(Str.ofString "self", .ref c), (Str.ofString "arg", t), (Str.ofString "kw", .ref d)] := by kernel_rfl
theorem loc86 (P : Params) (c d : Addr) (t : Value) : (([(Str.ofString "self", .ref c), (Str.ofString "arg", t), (Str.ofString "kw", .ref d)] : List (Str × Value)).all fun x => (fdAt (hd.heap_39 P) 86).scope.names.lookup x.1 == some .local) = true := by kernel_rfl
theorem bind175 (P : Params) (v1 v2 : Value) : bindArgs (fdAt (hd.heap_39 P) 175) ⟨[v1, v2], []⟩ = pure [(Str.ofString "one", v1), (Str.ofString "deed", v2)] := by kernel_rfl
theorem noSeq145 (P : Params) : noSeq (hd.heap_39 P) 145 = true := by kernel_rfl
theorem finds (P : Params) : findIn (hd.heap_39 P) (clsV true) "__setitem__" = some (some (.ref 42)) ∧ findIn (hd.heap_39 P) (clsV true) "__delitem__" = some (some (.ref 35)) ∧ findIn (hd.heap_39 P) (clsV true) "__setattr__" = some (some (.ref 49)) ∧
    findIn (hd.heap_39 P) (clsV true) "clear" = some (some (.ref 56)) ∧ findIn (hd.heap_39 P) (clsV true) "pop" = some (some (.ref 64)) ∧ findIn (hd.heap_39 P) (clsV true) "popitem" = some (some (.ref 71)) ∧
    findIn (hd.heap_39 P) (clsV true) "setdefault" = some (some (.ref 79)) ∧ findIn (hd.heap_39 P) (clsV true) "update" = some (some (.ref 86)) ∧ findIn (hd.heap_39 P) (clsV true) "__ior__" = some (some (.ref 128)) := by refine ⟨?_, ?_, ?_, ?_, ?_, ?_, ?_, ?_, ?_⟩ <;> kernel_rfl

theorem find_ior (P : Params) : findIn (hd.heap_39 P) (.ref 145) (dunderI Operator.BitOr.info.2) = some (some (.ref 128)) := by kernel_rfl

section
variable {w : World} {A : Around} {E : Value → Shared → Prop} {s : Shared} {prog : Program}

theorem ref86 {n : Nat} {c : Addr} {rs : Rw} {base : Heap} {outer : List Env} {R : Result → Shared → Prop} {v : Value} (O : Ok A (n + 2)) (X : Fl w A base outer s.heap) (D : Rows w true base c rs)
    (h : ∀ e t h' tk, Heap.FlyingW base outer e tErr (.ref t) h' → s.heap.UpToSlots h' → R (.error (.ref e)) { s with heap := h', toks := tk }) : codeAny (model Pg w) A (.call (.ref 86) ⟨[.ref c, v], []⟩) R s := by
  have ho := obj86 w.params
  have hc := code86 w.params
  have hce := cell86 w.params
  have hs := scope86 w.params
  have hn := look86 w.params
  have hb := bind86 w.params c v
  have hl := loc86 w.params c
  have hbd : (fdAt (KK w) 86).body = .stmts _ := rfl
  refine refuse (fd := fdAt (KK w) 86) O X D ho hc hbd hce hs hn (fun E => ?_) h
  rw [hb]
  refine wpAny_bind (wpAny_newTuple (wpAny_bind (wpAny_alloc (wpAny_pure ?_))) (by rw [sizeLine_eq]; exact (by decide : (1 : Nat) ≤ 16777216)))
  exact ⟨⟨_, _, rfl, fun _ _ e => Heap.get?_push_of_some _ (Heap.get?_push_of_some _ e)⟩, hl _ _, by kernel_rfl⟩

theorem setItem_im {a : Addr} {es : Array DictEntry} {ep : Nat} {i v : Value} {Q : Unit → Shared → Prop} (B : Base w s.heap) (D : DAt true s.heap a es ep) (h : wpAny (model prog w) A (call (.ref 42) [.ref a, i, v]) (fun _ s' => Q () s') E s) :
    wpAny (model prog w) A (setItem (.ref a) i v) Q E s := by
  obtain ⟨dx, I⟩ := D.inst
  unfold setItem sequenceKey
  refine wpAny_holding (wpAny_bind (wpAny_bind (I.type.here ?_)))
  refine wpAny_bind ((anyM_none B.k (noSeq145 w.params)).here ?_)
  rw [if_pos (show (!false) = true from rfl)]
  exact wpAny_pure (wpAny_bind (special_fn B.k I (finds w.params).1 (fn_of 42 (by decide)).1 (wpAny_mono h (fun _ _ z => wpAny_pure z) fun _ _ z => z)))
theorem delItem_im {a : Addr} {es : Array DictEntry} {ep : Nat} {i : Value} {Q : Unit → Shared → Prop} (B : Base w s.heap) (D : DAt true s.heap a es ep) (h : wpAny (model prog w) A (call (.ref 35) [.ref a, i]) (fun _ s' => Q () s') E s) :
    wpAny (model prog w) A (delItem (.ref a) i) Q E s := by
  obtain ⟨dx, I⟩ := D.inst
  unfold delItem sequenceKey
  refine wpAny_holding (wpAny_bind (wpAny_bind (I.type.here ?_)))
  refine wpAny_bind ((anyM_none B.k (noSeq145 w.params)).here ?_)
  rw [if_pos (show (!false) = true from rfl)]
  exact wpAny_pure (wpAny_bind (special_fn B.k I (finds w.params).2.1 (fn_of 35 (by decide)).1 (wpAny_mono h (fun _ _ z => wpAny_pure z) fun _ _ z => z)))
theorem setAttr_im {a : Addr} {es : Array DictEntry} {ep : Nat} {name : Str} {v : Value} {Q : Unit → Shared → Prop} (B : Base w s.heap) (D : DAt true s.heap a es ep) (h : wpAny (model prog w) A (call (.ref 49) [.ref a, .str name s.toks, v]) (fun _ => Q ()) E { s with toks := s.toks + 1 }) :
    wpAny (model prog w) A (setAttr (.ref a) name v) Q E s := by
  obtain ⟨dx, I⟩ := D.inst
  exact set_own B.k I (finds w.params).2.2.1 (fn_of 49 (by decide)).1 h
theorem ior_im {a : Addr} {es : Array DictEntry} {ep : Nat} {v : Value} {Q : Value → Shared → Prop} (B : Base w s.heap) (D : DAt true s.heap a es ep) (h : wpAny (model prog w) A (call (.ref 128) [.ref a, v]) (fun _ _ => False) E s) :
    wpAny (model prog w) A (inplaceOp .BitOr (.ref a) v) Q E s := by
  obtain ⟨dx, I⟩ := D.inst
  unfold inplaceOp
  refine wpAny_holding (wpAny_bind (I.type.here ?_))
  refine wpAny_bind ?_
  unfold fillsInplaceSlot
  show wpAny _ _ (mroOf (.ref 145) >>= _) _ _ _
  refine wpAny_bind ((look_mro B).here ?_)
  have L := looks_findIn (M := model prog w) B.k (find_ior w.params)
  unfold List.anyM
  refine wpAny_bind (wpAny_bind (L.here ?_))
  dsimp only
  rw [if_pos (by rfl)]
  refine wpAny_pure (wpAny_pure ?_)
  rw [if_pos rfl]
  refine wpAny_bind ?_
  unfold tryMethod
  refine wpAny_bind (special_fn B.k I (find_ior w.params) (fn_of 128 (by decide)).1 (wpAny_mono h (fun _ _ z => z.elim) fun _ _ z => z))
end
end Mine

set_option Elab.async false
set_option maxRecDepth 100000
set_option maxHeartbeats 8000000
set_option linter.unusedVariables false
open PySem PySem.W PyProof.Rows PySem.Calls
namespace Mine

local macro_rules | `(tactic| walk_at "m_s") => `(tactic| first
  | with_reducible refine wpAny_execs_cons ?_
  | with_reducible refine wpAny_execs_nil ?_
  | with_reducible refine wpAny_If ?_
  | with_reducible refine wpAny_Return_some ?_
  | ((with_reducible refine wpAny_Assign_Name ?_ ?hs); (case hs => with_unfolding_all rfl))
  | ((with_reducible refine wpAny_Assign_Subscript ?_ ?hs); (case hs => with_unfolding_all rfl))
  | with_reducible refine wpAny_BinOp ?_
  | ((with_reducible refine wpAny_Compare1 ?_ ?hm); (case hm => with_unfolding_all rfl))
  | ((with_reducible refine wpAny_isTrue_Compare1 ?_ ?hm); (case hm => with_unfolding_all rfl))
  | with_reducible refine wpAny_Constant_int ?_
  | with_reducible refine Constant_str ?_
  | with_reducible refine Constant_bool ?_
  | with_reducible refine Constant_none ?_
  | with_reducible refine Subscript_ ?_
  | with_reducible refine wpAny_truthy_bool ?_
  | ((with_reducible refine' nL (by assumption) (by assumption) (by assumption) ?hv ?_ ?hd); (case hd => decide); (case hv => first | assumption | with_unfolding_all rfl)))
open PySem.Heap
theorem loc175 (P : Params) (v1 v2 : Value) : (([(Str.ofString "one", v1), (Str.ofString "deed", v2)] : List (Str × Value)).all fun x => (fdAt (hd.heap_39 P) 175).scope.names.lookup x.1 == some .local) = true := by kernel_rfl
section
variable {w : World} {A : Around} {E : Value → Shared → Prop} {s : Shared}

def Landed (base : Heap) (outer : List Env) (s : Shared) (e : Value) (s' : Shared) : Prop := ∃ x t h' tk, e = .ref x ∧ s' = { s with heap := h', toks := tk } ∧ Heap.FlyingW base outer x tErr (.ref t) h' ∧ s.heap.UpToSlots h'

theorem mCall1D {prog : Program} {env : Env} {x name : Str} {p p3 apos pos : Pos} {keys : List (Option Expr)} {vals : List Expr} {Q : Value → Shared → Prop} (hline : (apos.endLine == pos.line) = true)
    (h : ∀ pl, wpAny (model prog w) A (eval (.Name x p) env) (fun ov s₁ => wpAny (model prog w) A (getMethod ov name pl) (fun fx s₂ => wpAny (model prog w) A (callWith pos fx.1 fx.2 [(false, eval (.Dict keys vals p3) env)] []) Q E s₂) E s₁) E s) :
    wpAny (model prog w) A (eval (.Call (.Attribute (.Name x p) name apos) [.Dict keys vals p3] [] pos) env) Q E s := by
  rw [arm_eval_Call]
  refine wpAny_bind (m := attributeBase (.Name x p) name env (eval (.Name x p) env)) ?_
  show wpAny _ _ (eval (.Name x p) env) _ _ _
  refine wpAny_mono (h (do return (← importBound (.Name x p) env).getD true)) (fun ov s₁ h₁ => wpAny_bind (wpAny_standAt ?_)) fun _ _ e => e
  unfold methodCall
  refine wpAny_bind (wpAny_holding ?_)
  show wpAny _ _ (getMethod ov name _) _ _ _
  refine wpAny_mono h₁ (fun fx s₂ h₂ => ?_) fun _ _ e => e
  unfold methodCallPos
  rw [hline, Bool.or_true, if_pos rfl]
  exact wpAny_bind (wpAny_pure h₂)
theorem zDict {env : Env} {prog : Program} {p1 p2 p3 : Pos} {k1 k2 : Nat} {Q : Value → Shared → Prop} (h : ∀ a h' tk, Le s.heap h' → Q (.ref a) { s with heap := h', toks := tk }) :
    wpAny (model prog w) A (eval (.Dict [some (.Constant (.str (Str.ofString "z")) k1 p1)] [.Constant (.int 1) k2 p2] p3) env) Q E s :=
  Dict_lits_str (D := [(.str (Str.ofString "z"), .int 1)]) rfl rfl (by decide) rfl rfl (by simp) (by simp) fun a o h₁ tk _ _ _ k => h a h₁ tk k

theorem refuses_spec {n : Nat} {c : Addr} {deed : Int} {t : Tok} {rs : Rw} {base : Heap} {outer : List Env} {R : Result → Shared → Prop} (O : Ok A (n + 4)) (X : Fl w A base outer s.heap) (D : Rows w true base c rs) (h0 : 0 ≤ deed) (h1 : deed < 9)
    (h : ∀ h' tk, Le base h' → s.heap.UpToSlots h' → R (.ok (.ret (.bool true))) { s with heap := h', toks := tk }) :
    codeAny (model Pg w) A (.call (.ref 175) ⟨[.ref c, .int deed t], []⟩) R s := by
  have hbd : (fdAt (KK w) 175).body = .stmts _ := rfl
  have hb := bind175 w.params (.ref c) (.int deed t)
  have hl := loc175 w.params (.ref c) (.int deed t)
  refine callFn (fd := fdAt (KK w) 175) O (X.B.keeps X.le) (obj175 w.params) (code175 w.params) hbd hb (cell175 w.params) hl (scope175 w.params) ?_
  clear hbd hb hl
  intro env L h₀ he EE hL S₀ O'
  have k1 : env.kindOf (Str.ofString "one") = some .local := by subst he; rfl
  have k2 : env.kindOf (Str.ofString "deed") = some .local := by subst he; rfl
  have k3 : env.kindOf (Str.ofString "TypeError") = some .globalImplicit := by subst he; rfl
  have ki : interactive env = false := by subst he; rfl
  have hf : env.frame = some L := by subst he; rfl
  clear he
  have X₁ := X.push S₀.keep EE.kind hf S₀.ns hL
  have B₀ := X₁.B.keeps X₁.le
  have O'' : Ok (A.deeper env) (0 + 2) := O'.mono (by omega)
  obtain ⟨es, ep, D', _⟩ := id (D.keeps X₁.le)
  refine wpAny_execs_cons (wpAny_Try_except (wpAny_mono (E := Landed base (env :: outer) s) (Q := fun _ _ => False) ?_ (fun _ _ z => z.elim) ?_))
  · have R2 : ∀ {h' : Heap} {tk : Nat} {e t' h'' tk'}, Le h₀ h' → Heap.FlyingW base (env :: outer) e tErr (.ref t') h'' → h'.UpToSlots h'' → Landed base (env :: outer) s (.ref e) { s with heap := h'', toks := tk' } :=
      fun {h' tk e t' h'' tk'} k F U => ⟨_, _, _, _, rfl, rfl, F, (UpToSlots.of_keeps fun b o q => k _ _ (S₀.keep _ _ q)).trans U⟩
    have c9 : deed = 0 ∨ deed = 1 ∨ deed = 2 ∨ deed = 3 ∨ deed = 4 ∨ deed = 5 ∨ deed = 6 ∨ deed = 7 ∨ deed = 8 := by omega
    refine wpAny_execs_cons (wpAny_If ?_)
    repeat walk_at "m_s"
    refine eq_int ?_
    refine wpAny_truthy_bool ?_
    rcases c9 with rfl | rfl | rfl | rfl | rfl | rfl | rfl | rfl | rfl
    · show wpAny _ _ (execs _ _) _ _ _
      repeat walk_at "m_s"
      refine setItem_im B₀ D' (wpAny_call (ref42 O'' X₁ D fun e t' h' tk F U => ?_))
      exact R2 (tk := 0) (fun _ _ e => e) F U
    · skip
      iterate 1
        show wpAny _ _ (execs _ _) _ _ _
        refine wpAny_execs_cons (wpAny_If ?_)
        repeat walk_at "m_s"
        refine eq_int ?_
        refine wpAny_truthy_bool ?_
      show wpAny _ _ (execs _ _) _ _ _
      refine wpAny_execs_cons (wpAny_Delete (wpAny_deleteEach_cons ?_))
      rw [arm_delete_Subscript]
      refine wpAny_bind ?_
      repeat walk_at "m_s"
      refine wpAny_bind (wpAny_holding ?_)
      repeat walk_at "m_s"
      refine wpAny_bind (wpAny_standAt (wpAny_bind (wpAny_holding ?_)))
      refine delItem_im B₀ D' (wpAny_call (ref35 O'' X₁ D fun e t' h' tk F U => ?_))
      exact R2 (tk := 0) (fun _ _ e => e) F U
    · skip
      iterate 2
        show wpAny _ _ (execs _ _) _ _ _
        refine wpAny_execs_cons (wpAny_If ?_)
        repeat walk_at "m_s"
        refine eq_int ?_
        refine wpAny_truthy_bool ?_
      show wpAny _ _ (execs _ _) _ _ _
      refine wpAny_execs_cons (wpAny_Expr_any (hi := ki) (mCall0 (nL EE S₀ k1 rfl (method_D B₀ D' (finds w.params).2.2.2.1 (fn_of 56 (by decide)).1 (by decide) (cwK0 (w := w) B₀ (fn_of 56 (by decide)).2.1 ?_)))))
      refine wpAny_call (ref56 O'' X₁ D fun e t' h' tk F U => ?_)
      exact R2 (tk := 0) (fun _ _ e => e) F U
    · skip
      iterate 3
        show wpAny _ _ (execs _ _) _ _ _
        refine wpAny_execs_cons (wpAny_If ?_)
        repeat walk_at "m_s"
        refine eq_int ?_
        refine wpAny_truthy_bool ?_
      show wpAny _ _ (execs _ _) _ _ _
      refine wpAny_execs_cons (wpAny_Expr_any (hi := ki) (mCall1 (nL EE S₀ k1 rfl (method_D B₀ D' (finds w.params).2.2.2.2.1 (fn_of 64 (by decide)).1 (by decide) (cwK1 (w := w) (fn_of 64 (by decide)).2.1 ?_)))))
      repeat walk_at "m_s"
      refine ⟨B₀, wpAny_call (ref64 O'' X₁ D fun e t' h' tk F U => ?_)⟩
      exact R2 (tk := 0) (fun _ _ e => e) F U
    · skip
      iterate 4
        show wpAny _ _ (execs _ _) _ _ _
        refine wpAny_execs_cons (wpAny_If ?_)
        repeat walk_at "m_s"
        refine eq_int ?_
        refine wpAny_truthy_bool ?_
      show wpAny _ _ (execs _ _) _ _ _
      refine wpAny_execs_cons (wpAny_Expr_any (hi := ki) (mCall0 (nL EE S₀ k1 rfl (method_D B₀ D' (finds w.params).2.2.2.2.2.1 (fn_of 71 (by decide)).1 (by decide) (cwK0 (w := w) B₀ (fn_of 71 (by decide)).2.1 ?_)))))
      refine wpAny_call (ref71 O'' X₁ D fun e t' h' tk F U => ?_)
      exact R2 (tk := 0) (fun _ _ e => e) F U
    · skip
      iterate 5
        show wpAny _ _ (execs _ _) _ _ _
        refine wpAny_execs_cons (wpAny_If ?_)
        repeat walk_at "m_s"
        refine eq_int ?_
        refine wpAny_truthy_bool ?_
      show wpAny _ _ (execs _ _) _ _ _
      refine wpAny_execs_cons (wpAny_Expr_any (hi := ki) (mCall2 (nL EE S₀ k1 rfl (method_D B₀ D' (finds w.params).2.2.2.2.2.2.1 (fn_of 79 (by decide)).1 (by decide) (cwK2 (w := w) (fn_of 79 (by decide)).2.1 ?_)))))
      repeat walk_at "m_s"
      refine ⟨B₀, wpAny_call (ref79 O'' X₁ D fun e t' h' tk F U => ?_)⟩
      exact R2 (tk := 0) (fun _ _ e => e) F U
    · skip
      iterate 6
        show wpAny _ _ (execs _ _) _ _ _
        refine wpAny_execs_cons (wpAny_If ?_)
        repeat walk_at "m_s"
        refine eq_int ?_
        refine wpAny_truthy_bool ?_
      show wpAny _ _ (execs _ _) _ _ _
      refine wpAny_execs_cons ?_
      refine wpAny_Expr_any (hi := ki) ?_
      refine mCall1D (by rfl) fun pl => ?_
      refine nL EE S₀ k1 rfl ?_
      refine method_D B₀ D' (finds w.params).2.2.2.2.2.2.2.1 (fn_of 86 (by decide)).1 (by decide) ?_
      dsimp only
      have hk86 : keepIn (KK w) (.ref 86) = true := (fn_of 86 (by decide)).2.1
      with_reducible refine cwK1 hk86 ?_
      with_reducible refine zDict fun z h₂ tk₂ k₂ => ?_
      have X₂ := X₁.leH k₂
      refine ⟨X₂.B.keeps X₂.le, ?_⟩
      refine wpAny_call ?_
      refine ref86 (s := { s with heap := h₂, toks := tk₂ }) O'' X₂ D fun e t' h' tk F U => ?_
      exact R2 (tk := 0) k₂ F U
    · skip
      iterate 7
        show wpAny _ _ (execs _ _) _ _ _
        refine wpAny_execs_cons (wpAny_If ?_)
        repeat walk_at "m_s"
        refine eq_int ?_
        refine wpAny_truthy_bool ?_
      show wpAny _ _ (execs _ _) _ _ _
      refine wpAny_execs_cons (plainObj_wpAny_Assign_Attribute ?_)
      repeat walk_at "m_s"
      refine setAttr_im (s := { s with heap := h₀, toks := _ }) B₀ D' (wpAny_call (ref49 O'' X₁ D fun e t' h' tk F U => ?_))
      exact R2 (tk := 0) (fun _ _ e => e) F U
    · skip
      iterate 7
        show wpAny _ _ (execs _ _) _ _ _
        refine wpAny_execs_cons (wpAny_If ?_)
        repeat walk_at "m_s"
        refine eq_int ?_
        refine wpAny_truthy_bool ?_
      show wpAny _ _ (execs _ _) _ _ _
      refine wpAny_execs_cons (wpAny_AugAssign_Name ?_)
      refine lL EE S₀ k1 rfl ?_
      with_reducible refine zDict fun z h₂ tk₂ k₂ => ?_
      have X₂ := X₁.leH k₂
      refine ior_im (s := { s with heap := h₂, toks := tk₂ }) (X₂.B.keeps X₂.le) (D'.keeps k₂) ?_
      refine wpAny_call ?_
      refine ref128 (s := { s with heap := h₂, toks := tk₂ }) O'' X₂ D fun e t' h' tk F U => ?_
      exact R2 (tk := 0) k₂ F U
  · rintro _ _ ⟨e, t', h', tk, rfl, rfl, F, U⟩
    refine wpAny_looks_onW X₁.fr hf F fun h₁ H₁ U₁ => ?_
    refine wpAny_landsW H₁ fun h₂ F₂ U₂ => ?_
    dsimp only
    have B₂ : Base w h₂ := X.B.keeps F₂.1
    have sub : isSubtype (.type "TypeError") (.type "TypeError") = pure true := by rw [isSubtype_type]; kernel_rfl
    refine wpAny_handleBy_builtin (X := "TypeError") (T := "TypeError") (b := true) (by rw [isSubtype_type]; kernel_rfl) (by rw [isSubtype_type]; kernel_rfl) sub ?_
    refine nB EE (s := { s with heap := h₂, toks := tk }) B₂ k3 (notMine_of "TypeError" (by decide)) boots.2.2.2.2.2.2.2 (by decide) ⟨rfl, ?_, ?_⟩
    · obtain ⟨ob, q1, q2⟩ := F₂.there; exact ⟨ob, q1, q2⟩
    rw [if_pos rfl]
    refine lands_againW F₂ fun h₃ F₃ U₃ => ?_
    refine wpAny_execs_cons (wpAny_Return_some (Constant_bool ?_))
    exact h h₃ _ F₃.1 (((U.trans U₁).trans U₂).trans U₃)
end
end Mine

set_option Elab.async false
set_option maxRecDepth 100000
set_option maxHeartbeats 8000000
set_option linter.unusedVariables false
open PySem PySem.W PyProof.Rows PySem.Calls
namespace Mine

local macro_rules | `(tactic| walk_at "m_s") => `(tactic| first
  | with_reducible refine wpAny_execs_cons ?_
  | with_reducible refine wpAny_execs_nil ?_
  | with_reducible refine wpAny_If ?_
  | with_reducible refine wpAny_Return_some ?_
  | ((with_reducible refine wpAny_Assign_Name ?_ ?hs); (case hs => with_unfolding_all rfl))
  | ((with_reducible refine wpAny_Assign_Subscript ?_ ?hs); (case hs => with_unfolding_all rfl))
  | with_reducible refine wpAny_BinOp ?_
  | ((with_reducible refine wpAny_Compare1 ?_ ?hm); (case hm => with_unfolding_all rfl))
  | ((with_reducible refine wpAny_isTrue_Compare1 ?_ ?hm); (case hm => with_unfolding_all rfl))
  | with_reducible refine wpAny_Constant_int ?_
  | with_reducible refine Constant_str ?_
  | with_reducible refine Constant_bool ?_
  | with_reducible refine Constant_none ?_
  | with_reducible refine Subscript_ ?_
  | with_reducible refine wpAny_truthy_bool ?_
  | ((with_reducible refine' nL (by assumption) (by assumption) (by assumption) ?hv ?_ ?hd); (case hd => decide); (case hv => first | assumption | with_unfolding_all rfl)))
noncomputable def lawB (P : Params) : List Stmt := match (fdAt (hd.heap_39 P) 187).body with | .stmts b => b | _ => []
noncomputable def loopB (P : Params) : List Stmt := match (lawB P)[4]? with | some (Stmt.For _ _ b _ _) => b | _ => []
noncomputable def stm (P : Params) (k : Nat) : Stmt := match (loopB P)[k]? with | some s => s | none => .Pass default

/-- the law's frame -/
structure LE (env : Env) (L cS cM : Addr) : Prop where
  ef : EF env L
  frame : env.frame = some L
  loc : (["script", "rows", "current", "stages", "_", "others", "plain", "filled", "due", "one", "word", "value"].all fun x => env.kindOf (Str.ofString x) == some .local) = true
  glo : (["range", "_law_next", "_law_plain", "_law_refuses", "_law_shown", "immutabledict", "dict", "len", "isinstance"].all fun x => env.kindOf (Str.ofString x) == some .globalImplicit) = true
  kS : env.kindOf (Str.ofString "state") = some .cell
  kM : env.kindOf (Str.ofString "made") = some .cell
  cS : env.cells.lookup (Str.ofString "state") = some cS
  cM : env.cells.lookup (Str.ofString "made") = some cM
theorem LE.l {env : Env} {L cS cM : Addr} (x : LE env L cS cM) (n : String) (h : n ∈ ["script", "rows", "current", "stages", "_", "others", "plain", "filled", "due", "one", "word", "value"] := by decide) : env.kindOf (Str.ofString n) = some .local := by
  simpa using List.all_eq_true.mp x.loc n h
theorem LE.g {env : Env} {L cS cM : Addr} (x : LE env L cS cM) (n : String) (h : n ∈ ["range", "_law_next", "_law_plain", "_law_refuses", "_law_shown", "immutabledict", "dict", "len", "isinstance"] := by decide) : env.kindOf (Str.ofString n) = some .globalImplicit := by
  simpa using List.all_eq_true.mp x.glo n h
theorem sw_true {elt : Expr} {gens : List Comprehension} {scope : Scope} {vpos pos : Pos} {t : Str} {line : Nat} {env : Env} (hk : env.scope.kind = .function) (hy : env.kindOf t = some .local) (hl : (pos.line == vpos.line) = true)
    (hn : (scope.names.any fun (n, k) => n == t && (k == .local || k == .cell)) = false) : swapsWith (.ListComp elt gens scope vpos) (some (.Name t pos)) line env = pure true := by
  unfold swapsWith
  have hb : env.blockKind = .function := by unfold Env.blockKind; rw [hk]; rfl
  show pure (env.blockKind == .function && env.kindOf t == some .local && pos.line == vpos.line && !(scope.names.any fun (n, k) => n == t && (k == .local || k == .cell))) = _
  rw [hb, hy, hl, hn]; rfl
theorem hide_mono {g g' : Heap} {st : Addr} (k : Le g g') : Le (g.hide st) (g'.hide st) := fun b o e => by
  have n : b ≠ st := fun q => by rw [q, Heap.hide_self] at e; cases e
  exact (Heap.hide_ne _ n).trans (k _ _ (Heap.of_hide e))
theorem clo_one {scope : Scope} {env : Env} {a b c d : Str} {x : Addr} (hs : scope.names = [(a, .local), (b, .local), (c, .globalImplicit), (d, .free)]) (hx : env.cells.lookup d = some x) : closureFor scope env = pure [(d, x)] := by
  unfold closureFor cellOf
  rw [hs]
  simp [hx]
theorem clo_two {scope : Scope} {env : Env} {a b d : Str} {x : Addr} (hs : scope.names = [(a, .local), (b, .local), (d, .free)]) (hx : env.cells.lookup d = some x) : closureFor scope env = pure [(d, x)] := by
  unfold closureFor cellOf
  rw [hs]
  simp [hx]

theorem kind_cell {scope : Scope} {cl : List (Str × Addr)} {C : Addr} {env : Env} {x : Str} (h : scope.names.lookup x = some .free) (hk : env.scope.kind = .function) (hc : env.kindOf x = some .cell) : (compEnvC scope cl C env).kindOf x = some .cell := by
  have go : ∀ (names : List (Str × NameKind)), names.lookup x = some .free → (names.map fun (n, k) => if (k == NameKind.free && env.scope.kind == .function && env.kindOf n == some .cell) then (n, NameKind.cell) else (n, k)).lookup x = some .cell := by
    intro names
    induction names with
    | nil => intro h; cases h
    | cons p r ih =>
      obtain ⟨n, k⟩ := p
      intro h
      rw [List.lookup_cons] at h
      rw [List.map_cons]
      cases hx : x == n with
      | true =>
        rw [hx] at h
        cases h
        have : x = n := beq_iff_eq.mp hx
        subst this
        have hb : (NameKind.free == NameKind.free && env.scope.kind == .function && env.kindOf x == some .cell) = true := by rw [hk, hc]; rfl
        simp only [hb, if_true, List.lookup_cons, hx]
      | false =>
        rw [hx] at h
        by_cases hb : (k == NameKind.free && env.scope.kind == .function && env.kindOf n == some .cell) = true
        · simp only [hb, if_true, List.lookup_cons, hx]; exact ih h
        · show List.lookup x ((if (k == NameKind.free && env.scope.kind == .function && env.kindOf n == some .cell) = true then (n, NameKind.cell) else (n, k)) :: _) = _
          rw [if_neg hb, List.lookup_cons, hx]; exact ih h
  exact go _ h
theorem kind_local {scope : Scope} {cl : List (Str × Addr)} {C : Addr} {env : Env} {x : Str} (h : scope.names.lookup x = some .local) : (compEnvC scope cl C env).kindOf x = some .local := lookup_relabel_local h
theorem EF.comp {env : Env} {L C : Addr} {scope : Scope} {cl : List (Str × Addr)} (x : EF env L) (hk : scope.kind = .function) : EF (compEnvC scope cl C env) C := ⟨hk, rfl, x.glob, x.blt⟩

section
variable {w : World} {A : Around} {E : Value → Shared → Prop} {s : Shared}

/-- others = [_law_other(state) for _ in range(_law_next(state, 6))] -/
theorem law_others {env : Env} {g : Heap} {L cS cM st l : Addr} {m : Str → Option Value} {oSt : Obj} {pre post : List (Addr × Obj)} {Q : Flow → Shared → Prop} (le : LE env L cS cM) (O : Ok A 9) (Bg : Base w g)
    (S : St g L m (pre ++ (st, oSt) :: post) s.heap) (hS : s.heap.IsCell cS (some (.ref st))) (cne : cS ≠ st) (cL : cS ≠ L) (X : StNow s.heap st l) (hlg : ∃ o, g.get? l = some o) (hn : ∀ p ∈ pre ++ post, p.1 ≠ st)
    (h : ∀ D (its : List It) g' h' tk oSt', Le g g' → St g' L (updN m (Str.ofString "others") (.ref D)) (pre ++ (st, oSt') :: post) h' → StNow h' st l → h'.IsCell cS (some (.ref st)) → g'.PlainList D (its.map (·.1)).toArray → (∀ p ∈ its, Oth w g' p.1 p.2) → its.length ≤ 5 →
      Q .next { s with heap := h', toks := tk }) : wpAny (model Pg w) A (exec (stm w.params 0) env) Q E s := by
  have he : stm w.params 0 = .Assign _ _ _ := rfl
  rw [he]
  clear he
  have B := S.base Bg
  have gst : g.get? st = none := (S.mv (st, oSt) (List.mem_append_right _ (.head _))).2.2
  refine comp_set (cl := [(Str.ofString "state", cS)]) (sw_true le.ef.kind (le.l "others") rfl (by decide)) (clo_one rfl le.cS) (by decide +kernel) rfl (by decide +kernel) (le.l "others") le.ef.kind ?_
  refine range_it le.ef B (le.g "range") ?_
  refine eval_next (O.mono (m := 0 + 1) (by omega)) (X.ok Bg S.keep gst) (by decide) (fun Q' q => nK le.ef B (le.g "_law_next") (gName w.params).1 q (by decide)) le.ef (fun Q' q => nC le.ef le.kS le.cS hS q (by decide)) fun r t₁ h₁ tk₁ r0 r1 X₁ c₁ => ?_
  refine ⟨r, t₁, rfl, r0, by omega, fun h₃ I tk k₃ nI lI hit => ?_⟩
  dsimp only at k₃ nI ⊢
  obtain ⟨o₁, S₁⟩ := St.next S c₁ X₁.toNow hn
  have S₃ := S₁.le k₃
  have LI : I ≠ L := S₁.ne nI
  have gI : g.get? I = none := S₁.none nI
  have stI : st ≠ I := ne_none (X₁.toNow.at1.choose_spec) nI
  have hS₁ : h₁.IsCell cS (some (.ref st)) := let ⟨o, ho, q⟩ := hS; ⟨o, c₁ _ _ ho (by simpa using cne), q⟩
  have cI : cS ≠ I := let ⟨o, ho, q⟩ := hS₁; ne_none ho nI
  have hS₃ := hS₁.keeps k₃
  have X₃ := X₁.toNow.le k₃
  have stL : st ≠ L := (S.mv (st, oSt) (List.mem_append_right _ (.head _))).2.1
  have mvI : ∀ p ∈ pre ++ post, p.1 ≠ I := fun p hp => S₁.neMut nI p (by rcases List.mem_append.mp hp with q | q; exact List.mem_append_left _ q; exact List.mem_append_right _ (.tail _ q))
  have mvA : ∀ p ∈ pre ++ post, h₃.get? p.1 = some p.2 ∧ p.1 ≠ L ∧ g.get? p.1 = none := fun p hp => S₃.mv p (by rcases List.mem_append.mp hp with q | q; exact List.mem_append_left _ q; exact List.mem_append_right _ (.tail _ q))
  -- what is hidden
  generalize hXe : L :: (pre ++ post).map (·.1) = Xs
  have inX : ∀ b, b ∈ Xs ↔ b = L ∨ ∃ p ∈ pre ++ post, p.1 = b := fun b => by rw [← hXe]; simp only [List.mem_cons, List.mem_map]
  have stX : st ∉ Xs := fun q => by
    rcases (inX st).mp q with q | ⟨p, hp, q⟩
    · exact stL q
    · exact hn p hp q
  have gX : ∀ b ∈ Xs, g.get? b = none := fun b hb => by
    rcases (inX b).mp hb with rfl | ⟨p, hp, rfl⟩
    · exact S.off
    · exact (mvA p hp).2.2
  have aX : ∀ b ∈ Xs, ∃ o, h₃.get? b = some o := fun b hb => by
    rcases (inX b).mp hb with rfl | ⟨p, hp, rfl⟩
    · obtain ⟨o, _, _, ho, _⟩ := S₃.ns; exact ⟨o, ho⟩
    · exact ⟨_, (mvA p hp).1⟩
  have IX : I ∉ Xs := fun q => by
    rcases (inX I).mp q with q | ⟨p, hp, q⟩
    · exact LI q
    · exact mvI p hp q
  have offg : Off g ([I] ++ Xs) := fun b hb => by
    rcases List.mem_append.mp hb with q | q
    · rw [List.mem_singleton.mp q]; exact gI
    · exact gX b q
  obtain ⟨ol, hol⟩ := hlg
  have hr5 : r.toNat ≤ 5 := by omega
  refine ⟨I, [I], [I], r.toNat, _, _, [st], Xs, fun i ys g' => Le g g' ∧ StNow g' st l ∧ ∃ its : List It, its.map (·.1) = ys ∧ ∀ p ∈ its, Oth w (g'.hide st) p.1 p.2, m, rfl, ⟨Walks.range O.handled I 0 1 r.toNat, by rw [sizeLine_eq]; omega, fun _ => rfl, hit, ?_, ?_, ?_, ?_, ?_, ?_⟩, ?_, ?_, ?_, ?_, ?_⟩
  · intro b hb; rw [List.mem_singleton.mp hb]; exact lI
  · intro b hb; rw [List.mem_singleton.mp hb]; exact ⟨Heap.lt_size X₃.at1.choose_spec, by simpa using stI⟩
  · intro b hb; obtain ⟨o, ho⟩ := aX b hb; exact Heap.lt_size ho
  · rintro i ys g₁ g₂ k ⟨a, b, its, c, d⟩
    exact ⟨fun b o e => k _ _ (a _ _ e), b.le k, its, c, fun p hp => (d p hp).keeps (hide_mono k)⟩
  · exact ⟨offg.le S₃.keep, X₃.hide (g := g) (by simp only [List.mem_append, List.mem_singleton, not_or]; exact ⟨stI, stX⟩) (offg.ne hol), [], rfl, fun p hp => nomatch hp⟩
  · intro C D i v ys g₃ m₃ s₃ E' hC hD hi ⟨tv, hP⟩ hIt hDa Sc ho hr hc ⟨j1, j2, its, j3, j4⟩
    have ST : ∀ b ∈ C :: D :: [I] ++ Xs, ∃ o, s₃.heap.get? b = some o := fun b hb => by
      rcases List.mem_cons.mp hb with rfl | hb
      · obtain ⟨o, _, _, ho, _⟩ := Sc.ns; exact ⟨o, ho⟩
      rcases List.mem_cons.mp hb with rfl | hb
      · exact hDa
      rcases List.mem_append.mp hb with hb | hb
      · rw [List.mem_singleton.mp hb]; exact ⟨_, hIt⟩
      · obtain ⟨o, ho⟩ := aX b hb
        refine ⟨o, hc b o ho fun q => ?_⟩
        rcases List.mem_append.mp q with q | q
        · exact stX (List.mem_singleton.mp q ▸ hb)
        · exact IX (List.mem_singleton.mp q ▸ hb)
    have hcS : s₃.heap.IsCell cS (some (.ref st)) := let ⟨o, ho, q⟩ := hS₃; ⟨o, hc _ _ ho (by simp only [List.mem_append, List.mem_singleton, not_or]; exact ⟨cne, cI⟩), q⟩
    have CcS : cS ≠ C := let ⟨o, ho, _⟩ := hS₃; ne_none ho hC
    generalize hce : compEnvC _ _ _ _ = cenv at *
    have EC : EF cenv C := by subst hce; exact ⟨rfl, rfl, le.ef.glob, le.ef.blt⟩
    have c1 : cenv.kindOf (Str.ofString "state") = some .cell := by subst hce; exact kind_cell rfl le.ef.kind le.kS
    have c2 : cenv.kindOf (Str.ofString "_law_other") = some .globalImplicit := by subst hce; rfl
    have c3 : cenv.kindOf (Str.ofString "_") = some .local := by subst hce; rfl
    have cc : cenv.cells.lookup (Str.ofString "state") = some cS := by subst hce; rfl
    clear hce
    refine wpAny_assign_Name (sL' EC Sc c3 fun h₄ S₄ cs => wpAny_tests_nil ?_)
    rw [if_pos rfl]
    have j2' := j2.le S₄.keep
    have XX : StOk w h₄ st l := j2'.ok Bg (fun b o e => S₄.keep _ _ (j1 _ _ e)) gst
    have cel : h₄.IsCell cS (some (.ref st)) := let ⟨o, ho, q⟩ := hcS; ⟨o, cs _ _ ho (by simpa using CcS), q⟩
    have hst3 := ho.ne j2.at1.choose_spec
    have hl3 := ho.ne j2.at2.choose_spec
    refine Call_Name1 (nK EC XX.b c2 (gName w.params).2.2.1 (cwK1 (w := w) (keepF_of 168 (by decide)) ?_) (by decide)) rfl
    refine nC EC c1 cc cel ⟨XX.b, wpAny_call ?_⟩ (by decide)
    refine other_spec (s := { s₃ with heap := h₄, toks := s₃.toks + 1 }) (O.mono (m := 4 + 4) (by omega)) XX fun ov d h₅ tk₅ N X₅ c₅ => ?_
    dsimp only at N c₅ ⊢
    have ST4 : ∀ b ∈ C :: D :: [I] ++ Xs, ∃ o, h₄.get? b = some o := fun b hb => by
      by_cases q : b = C
      · subst q; obtain ⟨o, _, _, ho, _⟩ := S₄.ns; exact ⟨o, ho⟩
      · obtain ⟨o, ho⟩ := ST b hb; exact ⟨o, cs b o ho (by simpa using q)⟩
    refine .of (g' := g₃) (m' := updN m₃ (Str.ofString "_") v) rfl ((cs.mono fun q hq => by rw [List.mem_singleton.mp hq]; exact .head _).trans (c₅.mono fun q hq => .tail _ hq)) (S₄.ns.at' fun o e => c₅ _ o e (by rintro (_ | ⟨_, ⟨⟩⟩); exact hst3 (.head _))) ?_
    have kg : Le (g₃.hide st) ((hideAll h₅ (C :: D :: [I] ++ Xs)).hide st) := fun b o e => by
      have n : b ≠ st := fun q => by rw [q, Heap.hide_self] at e; cases e
      have e' := Heap.of_hide e
      exact (Heap.hide_ne _ n).trans (hideAll_get _ (c₅ _ _ (S₄.keep _ _ e') (by simpa using n)) (ho.ne e'))
    refine ⟨fun b o e => hideAll_get _ (c₅ _ _ (S₄.keep _ _ (j1 _ _ e)) fun q => ?_) (ho.ne (j1 _ _ e)), X₅.toNow.hide (g := g₃) hst3 hl3, its ++ [(ov, d)], by simp [j3], fun p hp => ?_⟩
    · rw [List.mem_singleton.mp q, gst] at e; cases e
    · rcases List.mem_append.mp hp with hp | hp
      · exact (j4 p hp).keeps kg
      · rw [List.mem_singleton.mp hp]
        rcases N with ⟨rfl, rfl⟩ | ⟨im, a, rs, rfl, rfl, gn, kn, on, Rn⟩
        · exact .inl ⟨rfl, rfl⟩
        · refine .inr ⟨im, a, rs, rfl, rfl, Rn.keeps fun b o e => ?_⟩
          have nst : b ≠ st := fun q => by
            obtain ⟨o', ho'⟩ := XX.toNow.at1
            rw [q, on _ _ ho'] at e; cases e
          have nT : b ∉ (C :: D :: [I] ++ Xs) := fun q => by
            obtain ⟨o', ho'⟩ := ST4 b q
            rw [on _ _ ho'] at e; cases e
          exact (Heap.hide_ne _ nst).trans (hideAll_get _ (kn _ _ e) nT)
  · rw [le.ef.loc, ← hXe]; exact .head _
  · rw [le.ef.loc]; simpa using Ne.symm stL
  · rw [le.ef.loc]; simpa using Ne.symm LI
  · rw [le.ef.loc]; exact S₃.ns
  · intro D gJ h' tk' ys hD hpl hlen hle hoff ⟨j1, j2, its, j3, j4⟩ hch hns
    have c' : ∀ b o, h₃.get? b = some o → b ≠ L → b ≠ st → b ≠ I → h'.get? b = some o := fun b o e n1 n2 n3 => hch b o e (by
      simp only [List.mem_cons, List.mem_append, List.mem_singleton, le.ef.loc, not_or, List.not_mem_nil, or_false, not_false_eq_true]
      first | exact ⟨n1, n2, n3⟩ | exact ⟨⟨n1, n2⟩, n3⟩ | exact ⟨n1, ⟨n2, n3⟩⟩)
    have hil : its.length ≤ 5 := by have e : its.length = ys.length := by rw [← j3, List.length_map]
                                    omega
    obtain ⟨o', ho'⟩ := j2.at1
    have S' : St g L (updN m (Str.ofString "others") (.ref D)) (pre ++ (st, o') :: post) h' := by
      refine ⟨le.ef.loc ▸ hns, fun b o e => c' b o (S₃.keep _ _ e) (fun q => by rw [q, S.off] at e; cases e) (fun q => by rw [q, gst] at e; cases e) (fun q => by rw [q, gI] at e; cases e), S.off, fun p hp => ?_⟩
      have other : p ∈ pre ++ post → h'.get? p.1 = some p.2 ∧ p.1 ≠ L ∧ g.get? p.1 = none := fun hp => ⟨c' _ _ (mvA p hp).1 (mvA p hp).2.1 (hn p hp) (mvI p hp), (mvA p hp).2⟩
      rcases List.mem_append.mp hp with q | q
      · exact other (List.mem_append_left _ q)
      · rcases List.mem_cons.mp q with rfl | q
        · exact ⟨hle _ _ ho', stL, gst⟩
        · exact other (List.mem_append_right _ q)
    obtain ⟨g', S'', kg', all⟩ := S'.freeze
    have DL : D ≠ L := fun q => by obtain ⟨o, _, _, ho, _⟩ := S₃.ns; rw [q, ho] at hD; cases hD
    have Dmv : ∀ p ∈ pre ++ (st, o') :: post, p.1 ≠ D := fun p hp q => by
      rcases List.mem_append.mp hp with z | z
      · have := (mvA p (List.mem_append_left _ z)).1; rw [q, hD] at this; cases this
      · rcases List.mem_cons.mp z with rfl | z
        · obtain ⟨o, ho⟩ := X₃.at1; have q' : st = D := q; rw [q', hD] at ho; cases ho
        · have := (mvA p (List.mem_append_right _ z)).1; rw [q, hD] at this; cases this
    refine h D its g' h' tk' o' kg' S'' (j2.le hle) (let ⟨o, ho, q⟩ := hS₃; ⟨o, c' _ _ ho cL cne cI, q⟩) ?_ (fun p hp => (j4 p hp).keeps fun b o e => ?_) hil
    · obtain ⟨nn, hpl⟩ := hpl
      exact ⟨nn, all _ _ (by rw [j3]; exact hpl) DL Dmv⟩
    · have n : b ≠ st := fun q => by rw [q, Heap.hide_self] at e; cases e
      have e' := Heap.of_hide e
      have nX : b ∉ Xs := fun q => by rw [hoff b (.tail _ (List.mem_append_right _ q))] at e'; cases e'
      refine all _ _ (hle _ _ e') (fun q => nX ((inX b).mpr (.inl q))) fun p hp q => ?_
      rcases List.mem_append.mp hp with z | z
      · exact nX ((inX b).mpr (.inr ⟨p, List.mem_append_left _ z, q⟩))
      · rcases List.mem_cons.mp z with rfl | z
        · exact n q.symm
        · exact nX ((inX b).mpr (.inr ⟨p, List.mem_append_right _ z, q⟩))
end
end Mine

set_option Elab.async false
set_option maxRecDepth 100000
set_option maxHeartbeats 8000000
set_option linter.unusedVariables false
open PySem PySem.W PyProof.Rows PySem.Calls
namespace Mine

local macro_rules | `(tactic| walk_at "m_s") => `(tactic| first
  | with_reducible refine wpAny_execs_cons ?_
  | with_reducible refine wpAny_execs_nil ?_
  | with_reducible refine wpAny_If ?_
  | with_reducible refine wpAny_Return_some ?_
  | ((with_reducible refine wpAny_Assign_Name ?_ ?hs); (case hs => with_unfolding_all rfl))
  | ((with_reducible refine wpAny_Assign_Subscript ?_ ?hs); (case hs => with_unfolding_all rfl))
  | with_reducible refine wpAny_BinOp ?_
  | ((with_reducible refine wpAny_Compare1 ?_ ?hm); (case hm => with_unfolding_all rfl))
  | ((with_reducible refine wpAny_isTrue_Compare1 ?_ ?hm); (case hm => with_unfolding_all rfl))
  | with_reducible refine wpAny_Constant_int ?_
  | with_reducible refine Constant_str ?_
  | with_reducible refine Constant_bool ?_
  | with_reducible refine Constant_none ?_
  | with_reducible refine Subscript_ ?_
  | with_reducible refine wpAny_truthy_bool ?_
  | ((with_reducible refine' nL (by assumption) (by assumption) (by assumption) ?hv ?_ ?hd); (case hd => decide); (case hv => first | assumption | with_unfolding_all rfl)))
section
variable {w : World} {A : Around} {E : Value → Shared → Prop} {s : Shared}

/-- what a comprehension over a list asks of its turns, where a turn changes only its own names -/
structure TurnPlan (w : World) (A : Around) (env : Env) (elt target : Expr) (ifs : List Expr) (scope : Scope) (cl : List (Str × Addr)) (g : Heap) (s : Shared) (items : Array Value) (R : Nat → List Value → Heap → Prop) : Prop where
  ht : ∀ I v, letOwnedTupleGo target (.ref I) v = pure () ∨ True
  mono : ∀ i ys g₁ g₂, Le g₁ g₂ → R i ys g₁ → R i ys g₂
  zero : ∀ g', Le g g' → R 0 [] g'
  turn : ∀ T C i v ys gT m₃ s₃ E', (∀ b ∈ T, ∃ o, s₃.heap.get? b = some o) → C ∈ T → items[i]? = some v → s.heap.get? C = none → St gT C m₃ [] s₃.heap → Off gT T → Le g gT → R i ys gT → Le s.heap s₃.heap →
    wpAny (model Pg w) A (assign target (compEnvC scope cl C env) v) (fun _ s₄ =>
      wpAny (model Pg w) A (forIn ifs true fun c r => if r = true then do let ok ← isTrue c (compEnvC scope cl C env) (eval c (compEnvC scope cl C env)); pure (ForInStep.yield ok) else pure (ForInStep.yield r)) (fun ok s₅ =>
        if ok = true then wpAny (model Pg w) A (eval elt (compEnvC scope cl C env)) (fun y s₆ => TurnEnd T [] C (R (i + 1) (ys ++ [y])) s₃ s₆) E' s₅
        else TurnEnd T [] C (R (i + 1) ys) s₃ s₅) E' s₄) E' s₃

theorem plan_of {env : Env} {elt target : Expr} {ifs : List Expr} {scope : Scope} {cl : List (Str × Addr)} {g : Heap} {L D₀ : Addr} {m : Str → Option Value} {mv : List (Addr × Obj)} {items : Array Value} {R : Nat → List Value → Heap → Prop}
    (hh : A.handled = none) (S : St g L m mv s.heap) (hl : g.IsList D₀ items) (hsz : items.size ≤ 1000) (P : TurnPlan w A env elt target ifs scope cl g s items R)
    (ht : ∀ v, letOwnedTupleGo target (.ref s.heap.objs.size) v = pure ()) :
    CompPlan Pg w A env elt target ifs scope cl { s with heap := s.heap.push { cls := .type "list_iterator", data := .fields #[.ref D₀, .int 0 0] } } s.heap.objs.size [s.heap.objs.size, D₀] [s.heap.objs.size] items.size (fun i v => items[i]? = some v)
      (fun i h => h.IsListIter s.heap.objs.size D₀ i ∧ h.IsList D₀ items) [] (L :: mv.map (·.1)) (fun i ys g' => Le g g' ∧ R i ys g') := by
  have hit : (s.heap.push { cls := .type "list_iterator", data := .fields #[.ref D₀, .int 0 0] }).get? s.heap.objs.size = some { cls := .type "list_iterator", data := .fields #[.ref D₀, .int 0 0] } := Heap.get?_push_size _ rfl
  have k₁ := Le.push s.heap { cls := .type "list_iterator", data := .fields #[.ref D₀, .int 0 0] }
  have hIn : s.heap.get? s.heap.objs.size = none := get_none_ge (Nat.le_refl _)
  have hIs : s.heap.objs.size < (s.heap.push { cls := .type "list_iterator", data := .fields #[.ref D₀, .int 0 0] }).objs.size := Heap.lt_size hit
  generalize s.heap.push { cls := .type "list_iterator", data := .fields #[.ref D₀, .int 0 0] } = h₁ at *
  generalize s.heap.objs.size = I at *
  obtain ⟨oD, hoD, rD⟩ := id hl
  have hD₁ : h₁.IsList D₀ items := ⟨oD, k₁ _ _ (S.keep _ _ hoD), rD⟩
  have DI : D₀ ≠ I := ne_none (S.keep _ _ hoD) hIn
  have aX : ∀ b ∈ L :: mv.map (·.1), ∃ o, s.heap.get? b = some o := fun b hb => by
    rcases List.mem_cons.mp hb with rfl | hb
    · obtain ⟨o, _, _, ho, _⟩ := S.ns; exact ⟨o, ho⟩
    · obtain ⟨p, hp, rfl⟩ := List.mem_map.mp hb; exact ⟨_, (S.mv p hp).1⟩
  have gX : ∀ b ∈ L :: mv.map (·.1), g.get? b = none := fun b hb => by
    rcases List.mem_cons.mp hb with rfl | hb
    · exact S.off
    · obtain ⟨p, hp, rfl⟩ := List.mem_map.mp hb; exact (S.mv p hp).2.2
  have gI : g.get? I = none := S.none hIn
  have IX : ∀ b ∈ L :: mv.map (·.1), b ≠ I := fun b hb => let ⟨_, ho⟩ := aX b hb; ne_none ho hIn
  refine ⟨Walks.list hh I D₀ DI items, by rw [sizeLine_eq]; omega, ht, ⟨⟨_, hit, rfl, rfl⟩, hD₁⟩, ?_, ?_, ?_, ?_, ?_, ?_⟩
  · intro b hb
    rcases List.mem_cons.mp hb with rfl | hb
    · exact hIs
    · rw [List.mem_singleton.mp hb]; exact Heap.lt_size (k₁ _ _ (S.keep _ _ hoD))
  · exact fun b hb => nomatch hb
  · intro b hb; obtain ⟨o, ho⟩ := aX b hb; exact Heap.lt_size (k₁ _ _ ho)
  · exact fun i ys g₁ g₂ k ⟨a, b⟩ => ⟨fun b o e => k _ _ (a _ _ e), P.mono i ys _ _ k b⟩
  · have kg : Le g (hideAll h₁ ([I] ++ (L :: mv.map (·.1)))) := fun b o e => hideAll_get _ (k₁ _ _ (S.keep _ _ e)) fun q => by
      rcases List.mem_append.mp q with q | q
      · rw [List.mem_singleton.mp q, gI] at e; cases e
      · rw [gX b q] at e; cases e
    exact ⟨kg, P.zero _ kg⟩
  · intro C D i v ys gT m₃ s₃ E' hC hD hi hP hIt hDa Sc ho hr hc ⟨j1, j2⟩
    have cI : ∀ b o, h₁.get? b = some o → b ≠ I → s₃.heap.get? b = some o := fun b o e n => hc b o e (by simpa using n)
    have sC : s.heap.get? C = none := by
      cases q : s.heap.get? C with
      | none => rfl
      | some o => rw [k₁ _ _ q] at hC; cases hC
    have ST : ∀ b ∈ C :: D :: [I] ++ (L :: mv.map (·.1)), ∃ o, s₃.heap.get? b = some o := fun b hb => by
      rcases List.mem_cons.mp hb with rfl | hb
      · obtain ⟨o, _, _, ho, _⟩ := Sc.ns; exact ⟨o, ho⟩
      rcases List.mem_cons.mp hb with rfl | hb
      · exact hDa
      rcases List.mem_append.mp hb with hb | hb
      · rw [List.mem_singleton.mp hb]; obtain ⟨⟨o, e, _⟩, _⟩ := hIt; exact ⟨o, e⟩
      · obtain ⟨o, ho⟩ := aX b hb; exact ⟨o, cI b o (k₁ _ _ ho) (IX b hb)⟩
    have conv : ∀ (ys' : List Value) s', TurnEnd (C :: D :: [I] ++ (L :: mv.map (·.1))) [] C (R (i + 1) ys') s₃ s' → TurnEnd (C :: D :: [I] ++ (L :: mv.map (·.1))) [] C (fun g' => Le g g' ∧ R (i + 1) ys' g') s₃ s' := by
      rintro ys' s' ⟨g', m', h', tk, rfl, c, n, k, o, r⟩
      refine .of (g' := g') rfl c n ⟨fun b ob e => hideAll_get _ (c b ob (Sc.keep _ _ (j1 _ _ e)) fun q => ?_) (ho.ne (j1 _ _ e)), P.mono _ _ _ _ (o.le k) r⟩
      rw [List.mem_singleton.mp q] at e
      have := ho C (.head _)
      rw [j1 _ _ e] at this; cases this
    refine wpAny_mono (P.turn _ C i v ys gT m₃ s₃ E' ST (.head _) hP sC Sc ho j1 j2 fun b o e => cI b o (k₁ _ _ e) (ne_none e hIn)) (fun _ s₄ h₄ => wpAny_mono h₄ (fun ok s₅ h₅ => ?_) fun _ _ e => e) fun _ _ e => e
    cases ok with
    | false => exact conv _ _ h₅
    | true => exact wpAny_mono h₅ (fun y s₆ h₆ => conv _ _ h₆) fun _ _ e => e

/-- from the end of a comprehension back to the frame -/
theorem comp_back {g gJ h' : Heap} {L D D₀ : Addr} {m m' : Str → Option Value} {mv : List (Addr × Obj)} {ys : List Value} {R : Heap → Prop} (S : St g L m mv s.heap) (hRm : ∀ g₁ g₂, Le g₁ g₂ → R g₁ → R g₂)
    (hD : (s.heap.push { cls := .type "list_iterator", data := .fields #[.ref D₀, .int 0 0] }).get? D = none) (hpl : h'.PlainList D ys.toArray) (hle : Le gJ h') (hoff : Off gJ (D :: [s.heap.objs.size] ++ (L :: mv.map (·.1)))) (hR : R gJ)
    (hch : Ch (L :: [s.heap.objs.size]) (s.heap.push { cls := .type "list_iterator", data := .fields #[.ref D₀, .int 0 0] }) h') (hns : h'.Ns L m') :
    ∃ g', Le g g' ∧ St g' L m' mv h' ∧ g'.PlainList D ys.toArray ∧ R g' ∧ Ch [L] s.heap h' := by
  have k₁ := Le.push s.heap { cls := .type "list_iterator", data := .fields #[.ref D₀, .int 0 0] }
  have hIn : s.heap.get? s.heap.objs.size = none := get_none_ge (Nat.le_refl _)
  have c' : Ch [L] s.heap h' := fun b o e n => hch b o (k₁ _ _ e) (by
    simp only [List.mem_cons, List.not_mem_nil, or_false, not_or]; exact ⟨by simpa using n, ne_none e hIn⟩)
  have S' : St g L m' mv h' := ⟨hns, fun b o e => c' b o (S.keep _ _ e) (by intro q; rw [List.mem_singleton.mp q, S.off] at e; cases e), S.off, fun p hp => ⟨c' _ _ (S.mv p hp).1 (by simpa using (S.mv p hp).2.1), (S.mv p hp).2⟩⟩
  obtain ⟨g', S'', kg', all⟩ := S'.freeze
  have sD : s.heap.get? D = none := by
    cases q : s.heap.get? D with
    | none => rfl
    | some o => rw [k₁ _ _ q] at hD; cases hD
  obtain ⟨nn, hpl⟩ := hpl
  refine ⟨g', kg', S'', ⟨nn, all _ _ hpl (S.ne sD) (S.neMut sD)⟩, hRm _ _ (fun b o e => all _ _ (hle _ _ e) (fun q => ?_) fun p hp q => ?_) hR, c'⟩
  · rw [q, hoff L (.tail _ (List.mem_append_right _ (.head _)))] at e; cases e
  · rw [← q, hoff p.1 (.tail _ (List.mem_append_right _ (.tail _ (List.mem_map_of_mem hp))))] at e; cases e

theorem list_comp_set {elt target iter : Expr} {y : Str} {py : Pos} {ifs : List Expr} {scope : Scope} {cl : List (Str × Addr)} {pos spos : Pos} {Q : Flow → Shared → Prop} {env : Env} {g : Heap} {L D₀ : Addr} {m : Str → Option Value} {mv : List (Addr × Obj)} {items : Array Value} {R : Nat → List Value → Heap → Prop}
    (hsw : swapsWith (.ListComp elt [⟨target, iter, ifs, 0⟩] scope pos) (some (.Name y py)) spos.line env = pure true)
    (hclos : closureFor scope env = pure cl) (hcell : ∀ y ∈ scope.names, y.2 ≠ .cell) (hkind : scope.kind = .function) (hnames : ∀ y ∈ scope.names, y.2 = .local → scope.names.lookup y.1 = some .local)
    (hy : env.kindOf y = some .local) (EE : EF env L) (hh : A.handled = none) (S : St g L m mv s.heap) (hl : g.IsList D₀ items) (hsz : items.size ≤ 1000) (P : TurnPlan w A env elt target ifs scope cl g s items R)
    (hiter : ∀ (Q : Value → Shared → Prop) (E : Value → Shared → Prop), Q (.ref D₀) s → wpAny (model Pg w) A (eval iter env) Q E s)
    (h : ∀ D g' h' tk (ys : List Value), Le g g' → St g' L (updN m y (.ref D)) mv h' → g'.PlainList D ys.toArray → R items.size ys g' → Ch [L] s.heap h' → s.heap.get? D = none → Q .next { s with heap := h', toks := tk })
    (ht : ∀ v, letOwnedTupleGo target (.ref s.heap.objs.size) v = pure () := by intro _; rfl) (hs : ∀ x, foldedSetIterable iter env x = pure x := by intro _; rfl) :
    wpAny (model Pg w) A (exec (.Assign [.Name y py] (.ListComp elt [⟨target, iter, ifs, 0⟩] scope pos) spos) env) Q E s := by
  refine comp_set hsw hclos hcell hkind hnames hy EE.kind (hiter _ _ (wpAny_pyIter_list (let ⟨o, e, r⟩ := hl; ⟨o, S.keep _ _ e, r⟩) ?_)) hs
  have hIn : s.heap.get? s.heap.objs.size = none := get_none_ge (Nat.le_refl _)
  refine ⟨_, _, _, _, _, _, _, _, _, m, rfl, plan_of hh S hl hsz P ht, ?_, ?_, ?_, ?_, ?_⟩
  · rw [EE.loc]; exact .head _
  · exact fun q => nomatch q
  · rw [EE.loc]; simpa using Ne.symm (S.ne hIn)
  · rw [EE.loc]; exact S.ns.keeps (Le.push _ _)
  intro D gJ h' tk ys hD hpl hlen hle hoff ⟨j1, j2⟩ hch hns
  rw [EE.loc] at hch hns
  obtain ⟨g', a, b, c, d, e⟩ := comp_back (R := fun g' => R items.size ys g') S (fun _ _ k r => P.mono _ _ _ _ k r) hD hpl hle hoff j2 hch hns
  exact h D g' h' tk ys a b c d e (by
    cases q : s.heap.get? D with
    | none => rfl
    | some o => have := Le.push s.heap { cls := .type "list_iterator", data := .fields #[.ref D₀, .int 0 0] } _ _ q; rw [this] at hD; cases hD)

theorem list_comp_val {elt target iter : Expr} {ifs : List Expr} {scope : Scope} {cl : List (Str × Addr)} {pos : Pos} {Q : Value → Shared → Prop} {env : Env} {g : Heap} {L D₀ : Addr} {m : Str → Option Value} {mv : List (Addr × Obj)} {items : Array Value} {R : Nat → List Value → Heap → Prop}
    (hclos : closureFor scope env = pure cl) (hcell : ∀ y ∈ scope.names, y.2 ≠ .cell) (hkind : scope.kind = .function) (hnames : ∀ y ∈ scope.names, y.2 = .local → scope.names.lookup y.1 = some .local)
    (hh : A.handled = none) (S : St g L m mv s.heap) (hl : g.IsList D₀ items) (hsz : items.size ≤ 1000) (P : TurnPlan w A env elt target ifs scope cl g s items R)
    (hiter : ∀ (Q : Value → Shared → Prop) (E : Value → Shared → Prop), Q (.ref D₀) s → wpAny (model Pg w) A (eval iter env) Q E s)
    (h : ∀ D g' h' tk (ys : List Value), Le g g' → St g' L m mv h' → g'.PlainList D ys.toArray → R items.size ys g' → Le s.heap h' → s.heap.get? D = none → Q (.ref D) { s with heap := h', toks := tk })
    (ht : ∀ v, letOwnedTupleGo target (.ref s.heap.objs.size) v = pure () := by intro _; rfl) (hs : ∀ x, foldedSetIterable iter env x = pure x := by intro _; rfl) :
    wpAny (model Pg w) A (eval (.ListComp elt [⟨target, iter, ifs, 0⟩] scope pos) env) Q E s := by
  refine comp_val hclos hcell hkind hnames (hiter _ _ (wpAny_pyIter_list (let ⟨o, e, r⟩ := hl; ⟨o, S.keep _ _ e, r⟩) ?_)) hs
  have hIn : s.heap.get? s.heap.objs.size = none := get_none_ge (Nat.le_refl _)
  refine ⟨_, _, _, _, _, _, _, _, _, rfl, plan_of hh S hl hsz P ht, ?_⟩
  intro D gJ h' tk ys hD hpl hlen hle hoff ⟨j1, j2⟩ hch
  have k₁ := Le.push s.heap { cls := .type "list_iterator", data := .fields #[.ref D₀, .int 0 0] }
  have kk : Le s.heap h' := fun b o e => hch b o (k₁ _ _ e) (by simpa using ne_none e hIn)
  obtain ⟨g', a, b, c, d, e⟩ := comp_back (R := fun g' => R items.size ys g') S (fun _ _ k r => P.mono _ _ _ _ k r) hD hpl hle hoff j2 (hch.mono fun q hq => .tail _ hq) (S.ns.keeps kk)
  exact h D g' h' tk ys a b c d kk (by
    cases q : s.heap.get? D with
    | none => rfl
    | some o => rw [k₁ _ _ q] at hD; cases hD)
end
end Mine

set_option Elab.async false
set_option maxRecDepth 100000
set_option maxHeartbeats 8000000
set_option linter.unusedVariables false
open PySem PySem.W PyProof.Rows PySem.Calls
namespace Mine

local macro_rules | `(tactic| walk_at "m_s") => `(tactic| first
  | with_reducible refine wpAny_execs_cons ?_
  | with_reducible refine wpAny_execs_nil ?_
  | with_reducible refine wpAny_If ?_
  | with_reducible refine wpAny_Return_some ?_
  | ((with_reducible refine wpAny_Assign_Name ?_ ?hs); (case hs => with_unfolding_all rfl))
  | ((with_reducible refine wpAny_Assign_Subscript ?_ ?hs); (case hs => with_unfolding_all rfl))
  | with_reducible refine wpAny_BinOp ?_
  | ((with_reducible refine wpAny_Compare1 ?_ ?hm); (case hm => with_unfolding_all rfl))
  | ((with_reducible refine wpAny_isTrue_Compare1 ?_ ?hm); (case hm => with_unfolding_all rfl))
  | with_reducible refine wpAny_Constant_int ?_
  | with_reducible refine Constant_str ?_
  | with_reducible refine Constant_bool ?_
  | with_reducible refine Constant_none ?_
  | with_reducible refine Subscript_ ?_
  | with_reducible refine wpAny_truthy_bool ?_
  | ((with_reducible refine' nL (by assumption) (by assumption) (by assumption) ?hv ?_ ?hd); (case hd => decide); (case hv => first | assumption | with_unfolding_all rfl)))
theorem kind_keep {scope : Scope} {cl : List (Str × Addr)} {C : Addr} {env : Env} {x : Str} {kd : NameKind} (h : scope.names.lookup x = some kd) (hf : kd ≠ .free) : (compEnvC scope cl C env).kindOf x = some kd := by
  have go : ∀ (names : List (Str × NameKind)), names.lookup x = some kd → (names.map fun (n, k) => if (k == NameKind.free && env.scope.kind == .function && env.kindOf n == some .cell) then (n, NameKind.cell) else (n, k)).lookup x = some kd := by
    intro names
    induction names with
    | nil => intro h; cases h
    | cons p r ih =>
      obtain ⟨n, k⟩ := p
      intro h
      rw [List.lookup_cons] at h
      show List.lookup x ((if (k == NameKind.free && env.scope.kind == .function && env.kindOf n == some .cell) = true then (n, NameKind.cell) else (n, k)) :: _) = _
      cases hx : x == n with
      | true =>
        rw [hx] at h
        have hk : k = kd := Option.some.inj h
        have hb : (k == NameKind.free) = false := by rw [hk]; exact beq_eq_false_iff_ne.mpr hf
        rw [hb, Bool.false_and, Bool.false_and, if_neg Bool.false_ne_true, List.lookup_cons, hx, hk]
      | false =>
        rw [hx] at h
        by_cases hb : (k == NameKind.free && env.scope.kind == .function && env.kindOf n == some .cell) = true
        · rw [if_pos hb, List.lookup_cons, hx]; exact ih h
        · rw [if_neg hb, List.lookup_cons, hx]; exact ih h
  exact go _ h

def plains (l : List It) : List Rw := l.filterMap fun p => p.2.map (·.2)
theorem plains_take {l : List It} {i : Nat} {p : It} (h : l[i]? = some p) : plains (l.take (i + 1)) = plains (l.take i) ++ (match p.2 with | some (_, r) => [r] | none => []) := by
  unfold plains
  rw [List.take_add_one, h, List.filterMap_append]
  congr 1
  cases hp : p.2 with
  | none => simp [hp]
  | some q => simp [hp]

abbrev PlainAt (w : World) (g : Heap) (v : Value) (rs : Rw) : Prop := ∃ a, v = .ref a ∧ Rows w false g a rs
theorem PlainAt.keeps {w : World} {g h : Heap} {v : Value} {rs : Rw} (x : PlainAt w g v rs) (k : Le g h) : PlainAt w h v rs := let ⟨a, e, r⟩ := x; ⟨a, e, r.keeps k⟩

section
variable {w : World} {A : Around} {E : Value → Shared → Prop} {s : Shared}

/-- [dict(one) for one in others if one is not None] -/
theorem plains_turn {env : Env} {g : Heap} {L : Addr} {its : List It} {scope : Scope} {k : Nat} {p1 p2 p3 p4 p5 p6 p7 : Pos} (EE : EF env L) (Bg : Base w g) (hits : ∀ p ∈ its, Oth w g p.1 p.2)
    (hk : scope.kind = .function) (h1 : scope.names.lookup (Str.ofString "one") = some .local) (h2 : scope.names.lookup (Str.ofString "dict") = some .globalImplicit) :
    TurnPlan w A env (.Call (.Name (Str.ofString "dict") p1) [.Name (Str.ofString "one") p2] [] p3) (.Name (Str.ofString "one") p4) [.Compare (.Name (Str.ofString "one") p5) [.IsNot] [.Constant .none k p6] p7] scope [] g s (its.map (·.1)).toArray
      (fun i ys g' => Paired (PlainAt w g') ys (plains (its.take i))) where
  ht := fun _ _ => .inr trivial
  mono := fun i ys g₁ g₂ k h => h.mono fun _ _ x => x.keeps k
  zero := fun g' _ => by simpa [plains] using Paired.nil
  turn := by
    intro T C i v ys gT m₃ s₃ E' hT hCT hi sC Sc ho kg hR hls
    obtain ⟨p, hp, rfl⟩ : ∃ p, its[i]? = some p ∧ p.1 = v := by
      simp only [List.getElem?_toArray, List.getElem?_map] at hi
      obtain ⟨p, a, b⟩ := Option.map_eq_some_iff.mp hi
      exact ⟨p, a, b⟩
    have hpl := hits p (List.mem_of_getElem? hp)
    have EC := EE.comp (C := C) (scope := scope) (cl := []) hk
    have c1 : (compEnvC scope [] C env).kindOf (Str.ofString "one") = some .local := kind_keep h1 (by decide)
    have c2 : (compEnvC scope [] C env).kindOf (Str.ofString "dict") = some .globalImplicit := kind_keep h2 (by decide)
    generalize compEnvC scope [] C env = cenv at *
    refine wpAny_assign_Name (sL' EC Sc c1 fun h₄ S₄ cs => wpAny_tests_one ?_)
    have B₄ := S₄.base (Bg.keeps kg)
    have n1 : updN m₃ (Str.ofString "one") p.1 (Str.ofString "one") = some p.1 := updN_eq
    generalize updN m₃ (Str.ofString "one") p.1 = m₄ at *
    repeat walk_at "m_s"
    have htk := plains_take hp
    rcases hpl with ⟨e1, e2⟩ | ⟨im, a, rs, e1, e2, Ra⟩
    · rw [e1]
      refine wpAny_isNot_self rfl ?_
      refine wpAny_truthy_bool ?_
      rw [if_neg (by decide)]
      rw [e2] at htk
      refine .of (g' := gT) (m' := m₄) rfl cs S₄.ns ?_
      rw [htk, List.append_nil]
      exact hR.mono fun _ _ x => x.keeps (ho.le fun b o e => S₄.keep _ _ e)
    · rw [e1]
      refine wpAny_isNot_other rfl (by intro q; cases q) ?_
      refine wpAny_truthy_bool ?_
      rw [if_pos (by decide)]
      rw [e2] at htk
      refine Call_Name1 (nB EC B₄ c2 (notMine_of "dict" (by decide)) boots.2.2.2.1 (by decide) (cwT1 ?_)) rfl
      refine nL EC S₄ c1 n1 ?_
      rw [e1]
      refine call_dict_D (s := { s₃ with heap := h₄, toks := s₃.toks + 1 }) B₄ ((Ra.keeps kg).keeps S₄.keep) fun d h₅ t₅ N k₅ => ?_
      dsimp only at N k₅ ⊢
      refine .of (g' := gT) (m' := m₄) rfl (cs.trans (.of_le k₅)) (S₄.ns.keeps k₅) ?_
      rw [htk]
      refine Paired.snoc (hR.mono fun _ _ x => x.keeps (ho.le fun b o e => k₅ _ _ (S₄.keep _ _ e))) ?_
      obtain ⟨gn, kn, on, Rn⟩ := N
      refine ⟨d, rfl, Rn.keeps fun b o e => hideAll_get _ (kn _ _ e) fun q => ?_⟩
      obtain ⟨o', ho'⟩ := hT b q
      have : ∃ o', h₄.get? b = some o' := by
        by_cases q : b = C
        · subst q; obtain ⟨o, _, _, ho, _⟩ := S₄.ns; exact ⟨o, ho⟩
        · exact ⟨o', cs b o' ho' (by simpa using q)⟩
      obtain ⟨o'', ho''⟩ := this
      rw [on _ _ ho''] at e; cases e

/-- [one for one in others if one] -/
theorem filled_turn {env : Env} {g : Heap} {L : Addr} {its : List It} {scope : Scope} {p2 p4 p5 : Pos} (EE : EF env L) (Bg : Base w g) (hits : ∀ p ∈ its, Oth w g p.1 p.2)
    (hk : scope.kind = .function) (h1 : scope.names.lookup (Str.ofString "one") = some .local) :
    TurnPlan w A env (.Name (Str.ofString "one") p2) (.Name (Str.ofString "one") p4) [.Name (Str.ofString "one") p5] scope [] g s (its.map (·.1)).toArray
      (fun i ys _ => ys = ((its.take i).filter filledIt).map (·.1)) where
  ht := fun _ _ => .inr trivial
  mono := fun i ys g₁ g₂ k h => h
  zero := fun g' _ => by simp
  turn := by
    intro T C i v ys gT m₃ s₃ E' hT hCT hi sC Sc ho kg hR hls
    obtain ⟨p, hp, rfl⟩ : ∃ p, its[i]? = some p ∧ p.1 = v := by
      simp only [List.getElem?_toArray, List.getElem?_map] at hi
      obtain ⟨p, a, b⟩ := Option.map_eq_some_iff.mp hi
      exact ⟨p, a, b⟩
    have hpl := hits p (List.mem_of_getElem? hp)
    have EC := EE.comp (C := C) (scope := scope) (cl := []) hk
    have c1 : (compEnvC scope [] C env).kindOf (Str.ofString "one") = some .local := kind_keep h1 (by decide)
    generalize compEnvC scope [] C env = cenv at *
    refine wpAny_assign_Name (sL' EC Sc c1 fun h₄ S₄ cs => wpAny_tests_one ?_)
    have B₄ := S₄.base (Bg.keeps kg)
    have n1 : updN m₃ (Str.ofString "one") p.1 (Str.ofString "one") = some p.1 := updN_eq
    generalize updN m₃ (Str.ofString "one") p.1 = m₄ at *
    refine isTrue_of_truthy ?_
    repeat walk_at "m_s"
    have htk := filter_take_succ hp
    refine truthy_oth (s := { s₃ with heap := h₄, toks := s₃.toks + 1 }) B₄ ((hpl.keeps kg).keeps S₄.keep) fun tk => ?_
    cases hf : filledIt p with
    | false =>
      rw [if_neg (by decide)]
      refine .of (g' := gT) (m' := m₄) rfl cs S₄.ns ?_
      rw [htk, hf]; simpa using hR
    | true =>
      rw [if_pos rfl]
      refine nL EC S₄ c1 n1 ?_
      refine .of (g' := gT) (m' := m₄) rfl cs S₄.ns ?_
      rw [htk, hf, hR]; simp
end
end Mine

set_option Elab.async false
set_option maxRecDepth 100000
set_option maxHeartbeats 8000000
set_option linter.unusedVariables false
open PySem PySem.W PyProof.Rows PySem.Calls
namespace Mine

local macro_rules | `(tactic| walk_at "m_s") => `(tactic| first
  | with_reducible refine wpAny_execs_cons ?_
  | with_reducible refine wpAny_execs_nil ?_
  | with_reducible refine wpAny_If ?_
  | with_reducible refine wpAny_Return_some ?_
  | ((with_reducible refine wpAny_Assign_Name ?_ ?hs); (case hs => with_unfolding_all rfl))
  | ((with_reducible refine wpAny_Assign_Subscript ?_ ?hs); (case hs => with_unfolding_all rfl))
  | with_reducible refine wpAny_BinOp ?_
  | ((with_reducible refine wpAny_Compare1 ?_ ?hm); (case hm => with_unfolding_all rfl))
  | ((with_reducible refine wpAny_isTrue_Compare1 ?_ ?hm); (case hm => with_unfolding_all rfl))
  | with_reducible refine wpAny_Constant_int ?_
  | with_reducible refine Constant_str ?_
  | with_reducible refine Constant_bool ?_
  | with_reducible refine Constant_none ?_
  | with_reducible refine Subscript_ ?_
  | with_reducible refine wpAny_truthy_bool ?_
  | ((with_reducible refine' nL (by assumption) (by assumption) (by assumption) ?hv ?_ ?hd); (case hd => decide); (case hv => first | assumption | with_unfolding_all rfl)))
section
variable {w : World} {A : Around} {E : Value → Shared → Prop} {s : Shared}

theorem setItem_D {d : Addr} {es : Array DictEntry} {ep : Nat} {rs : Rw} {k : Str} {t : Tok} {v : Int} {tv : Tok} {Q : Unit → Shared → Prop} (ho : s.heap.get? d = some ⟨.type "dict", none, .dict es ep, #[]⟩) (R : RowsIn w es rs) (hk : OkR (k, v))
    (h : ∀ h' es' ep' t', h'.get? d = some ⟨.type "dict", none, .dict es' ep', #[]⟩ → RowsIn w es' (put rs k v) → Heap.SameBut d s.heap h' → Q () { s with heap := h', toks := t' }) :
    wpAny (model Pg w) A (setItem (.ref d) (.str k t) (.int v tv)) Q E s := by
  have hT : s.TypeIs (.ref d) "dict" := ⟨_, ho, rfl⟩
  unfold setItem
  refine wpAny_holding ?_
  refine wpAny_bind (wpAny_sequenceKey hT (by decide) ?_)
  refine wpAny_bind (wpAny_callSpecial?_slot (name := Str.ofString "__setitem__") hT F.slot_dict_setitem (wpAny_call_entry F.slot_dict_setitem hT F.entry_dict_setitem ?_ (F.args_dict_setitem_3 _ _ _)))
  show wpAny _ _ (Builtin.Dict.notOrdered "__setitem__" ⟨[.ref d, .str k t, .int v tv], []⟩ >>= _) _ _ s
  refine wpAny_bind (wpAny_notOrdered_dict hT ?_)
  show wpAny _ _ (dictSet d (.str k t) (.int v tv) >>= _) _ _ s
  exact wpAny_bind (dictSet_rows ho R hk fun h' es' ep' t' a b c => wpAny_pure ⟨.none, rfl, wpAny_pure (h h' es' ep' t' a b c)⟩)

theorem own_go {elts : List Expr} {x1} {pos : Pos} {it d T : Addr} {i n ep : Nat} {Q : Unit → Shared → Prop} (hit : ItIt s.heap it d i n ep)
    (hQ : ∀ h', ItIt h' it d i n ep → Ch [it] s.heap h' → Q () { s with heap := h' }) : wpAny (model Pg w) A (letOwnedTupleGo (.Tuple elts x1 pos) (.ref it) (.ref T)) Q E s := by
  obtain ⟨f0, f1, ok, ov, hf0, hit⟩ := hit
  unfold letOwnedTupleGo
  refine wpAny_bind (wpAny_load hit ?_)
  show wpAny _ _ (if (["enumerate", "zip", "dict_itemiterator", "dict_reverseitemiterator", "odict_iterator", "itertools.zip_longest", "itertools.pairwise"].contains "dict_itemiterator" &&
      (#[f0, f1, .ref d, .int i 0, .int n 0, .int ep 0, ok, ov] : Array Value)[0]? == some (rawInt T)) = true then _ else _) Q E s
  refine wpAny_ite_split (fun _ => ?_) (fun _ => ?_)
  · refine wpAny_bind (wpAny_rule ?_)
    show wpAny _ _ (setField (.ref it) 0 .none) Q E s
    exact wpAny_setField_rec hit (by simp) fun h' he' hs' => hQ h' ⟨_, _, _, _, .inl rfl, he'⟩ (Ch.of_same hs')
  · exact wpAny_pure (hQ s.heap ⟨f0, f1, ok, ov, hf0, hit⟩ (.refl _ _))

theorem assign_two {env : Env} {g : Heap} {L T : Addr} {m : Str → Option Value} {mv : List (Addr × Obj)} {x y : Str} {a b : Value} {p1 p2 pos : Pos} {k : Nat} {Q : Unit → Shared → Prop} (hh : A.handled = none) (EE : EF env L) (S : St g L m mv s.heap)
    (hT : IsTup s.heap T #[a, b]) (hx : env.kindOf x = some .local) (hy : env.kindOf y = some .local) (h : ∀ h' tk, St g L (updN (updN m x a) y b) mv h' → Ch [L] s.heap h' → Q () { s with heap := h', toks := tk }) :
    wpAny (model Pg w) A (assign (.Tuple [.Name x p1, .Name y p2] k pos) env (.ref T)) Q E s := by
  refine assign_Tuple_tuple hh hT rfl rfl fun h₁ e₁ => ?_
  have k₁ : Le s.heap h₁ := fun b o e => e₁ b o (Nat.ne_of_lt (Heap.lt_size e)) e
  show wpAny _ _ (assignInOrder [assign (.Name x p1) env, assign (.Name y p2) env] [a, b]) _ _ _
  refine assignInOrder_cons (wpAny_assign_Name (sL' EE (S.le k₁) hx fun h₂ S₂ c₂ => ?_))
  refine assignInOrder_cons (wpAny_assign_Name (sL' EE S₂ hy fun h₃ S₃ c₃ => ?_))
  exact assignInOrder_nil (h h₃ _ S₃ (fun b o e n => c₃ _ _ (c₂ _ _ (k₁ _ _ e) n) n))

theorem mCall0N {prog : Program} {env : Env} {x name : Str} {p apos pos : Pos} {Q : Value → Shared → Prop} (hline : (apos.endLine == pos.line) = true)
    (h : ∀ pl, wpAny (model prog w) A (eval (.Name x p) env) (fun ov s₁ => wpAny (model prog w) A (getMethod ov name pl) (fun fx s₂ => wpAny (model prog w) A (callWith pos fx.1 fx.2 [] []) Q E s₂) E s₁) E s) :
    wpAny (model prog w) A (eval (.Call (.Attribute (.Name x p) name apos) [] [] pos) env) Q E s := by
  rw [arm_eval_Call]
  refine wpAny_bind (m := attributeBase (.Name x p) name env (eval (.Name x p) env)) ?_
  show wpAny _ _ (eval (.Name x p) env) _ _ _
  refine wpAny_mono (h (do return (← importBound (.Name x p) env).getD true)) (fun ov s₁ h₁ => wpAny_bind (wpAny_standAt ?_)) fun _ _ e => e
  unfold methodCall
  refine wpAny_bind (wpAny_holding ?_)
  show wpAny _ _ (getMethod ov name _) _ _ _
  refine wpAny_mono h₁ (fun fx s₂ h₂ => ?_) fun _ _ e => e
  unfold methodCallPos
  rw [hline, Bool.or_true, if_pos rfl]
  exact wpAny_bind (wpAny_pure h₂)

abbrev plainObj (es : Array DictEntry) (ep : Nat) : Obj := ⟨.type "dict", none, .dict es ep, #[]⟩

/-- for word, value in one.items(): due[word] = value -/
theorem inner_loop {env : Env} {g : Heap} {L cS cM a du : Addr} {m : Str → Option Value} {es : Array DictEntry} {ep : Nat} {pre post : List (Addr × Obj)} {rs rx : Rw} {k : Nat} {p1 p2 p3 p4 apos p5 p6 p7 p8 p9 p10 p11 : Pos} {Q : Flow → Shared → Prop}
    (le : LE env L cS cM) (hh : A.handled = none) (Bg : Base w g) (S : St g L m (pre ++ (du, plainObj es ep) :: post) s.heap) (R : RowsIn w es rs) (mOne : m (Str.ofString "one") = some (.ref a)) (Da : Rows w false g a rx) (mDue : m (Str.ofString "due") = some (.ref du))
    (hn : ∀ p ∈ pre ++ post, p.1 ≠ du) (hline : (apos.endLine == p4.line) = true)
    (h : ∀ m' es' ep' h' tk, St g L m' (pre ++ (du, plainObj es' ep') :: post) h' → RowsIn w es' (mergeR rs rx) → (∀ x, x ≠ Str.ofString "word" → x ≠ Str.ofString "value" → m' x = m x) → Q .next { s with heap := h', toks := tk }) :
    wpAny (model Pg w) A (exec (.For (.Tuple [.Name (Str.ofString "word") p1, .Name (Str.ofString "value") p2] k p3) (.Call (.Attribute (.Name (Str.ofString "one") p5) (Str.ofString "items") apos) [] [] p4)
      [.Assign [.Subscript (.Name (Str.ofString "due") p6) (.Name (Str.ofString "word") p7) p8] (.Name (Str.ofString "value") p9) p10] [] p11) env) Q E s := by
  obtain ⟨ea, epa, Dx, Rx⟩ := id Da
  have B := S.base Bg
  refine wpAny_For ?_
  refine mCall0N hline fun pl => ?_
  refine nL le.ef S (le.l "one") mOne (method_D B (Dx.keeps S.keep) (find_items w.params false) (type_items w.params) (by decide) (cwB0 ?_))
  refine items_D B (Dx.keeps S.keep) ?_
  have S₁ := S.push (viewObj a)
  have hv : (s.heap.push (viewObj a)).get? s.heap.objs.size = some (viewObj a) := Heap.get?_push_size _ rfl
  generalize s.heap.push (viewObj a) = h₁ at *
  refine iter_view hv ((Dx.keeps S₁.keep).entAt) ?_
  dsimp only
  have hit : (h₁.push (itObj .none (.bool false) a 0 ea.size epa .none .none)).get? h₁.objs.size = some (itObj .none (.bool false) a 0 ea.size epa .none .none) := Heap.get?_push_size _ rfl
  have k₂ := Le.push h₁ (itObj .none (.bool false) a 0 ea.size epa .none .none)
  have hIn : h₁.get? h₁.objs.size = none := get_none_ge (Nat.le_refl _)
  generalize h₁.push (itObj .none (.bool false) a 0 ea.size epa .none .none) = h₂ at *
  generalize h₁.objs.size = I at *
  have S₂ := S₁.le k₂
  have IL : I ≠ L := S₁.ne hIn
  have gI : g.get? I = none := S₁.none hIn
  have Imv : ∀ p ∈ pre ++ post, p.1 ≠ I := fun p hp => S₁.neMut hIn p (by rcases List.mem_append.mp hp with q | q; exact List.mem_append_left _ q; exact List.mem_append_right _ (.tail _ q))
  have Idu : du ≠ I := S₁.neMut hIn (du, plainObj es ep) (List.mem_append_right _ (.head _))
  have stI : ∀ {m' es' ep'} {h h' : Heap}, St g L m' (pre ++ (du, plainObj es' ep') :: post) h → Ch [I] h h' → St g L m' (pre ++ (du, plainObj es' ep') :: post) h' := fun {m' es' ep' h h'} S c =>
    S.ch c (by simpa using Ne.symm IL) (by simpa [Off] using gI) fun p hp => by
      rcases List.mem_append.mp hp with q | q
      · simpa using Imv p (List.mem_append_left _ q)
      · rcases List.mem_cons.mp q with rfl | q
        · simpa using Idu
        · simpa using Imv p (List.mem_append_right _ q)
  refine codeAny_forLoop_any (fun k' s' => ∃ h' tk m' es' ep' i, s' = { s with heap := h', toks := tk } ∧ i ≤ ea.size ∧ k' = ea.size + 1 - i ∧ ItIt h' I a i ea.size epa ∧ St g L m' (pre ++ (du, plainObj es' ep') :: post) h' ∧ RowsIn w es' (mergeR rs (rx.take i)) ∧
    (∀ x, x ≠ Str.ofString "word" → x ≠ Str.ofString "value" → m' x = m x)) ?_ (ea.size + 1) ⟨h₂, _, m, es, ep, 0, rfl, Nat.zero_le _, rfl, ⟨_, _, _, _, .inl rfl, hit⟩, S₂, by simpa [mergeR] using R, fun _ _ _ => rfl⟩
  rintro k' s' ⟨h', tk, m', es', ep', i, rfl, hi, rfl, hit', S', R', ag⟩
  by_cases hlt : i < ea.size
  · refine nxt_item (s := { s with heap := h', toks := tk }) hit' ((Dx.keeps S'.keep).entAt) (Array.getElem?_eq_getElem hlt) fun h₃ T hTe hit₃ hT₃ c₃ => ?_
    dsimp only at hTe c₃ ⊢
    have S₃ := stI S' c₃
    refine own_go (s := { s with heap := h₃, toks := tk }) hit₃ fun h₄ hit₄ c₄ => ?_
    dsimp only at c₄ ⊢
    have S₄ := stI S₃ c₄
    have hTI : T ∉ [I] := fun q => by
      obtain ⟨_, _, _, _, _, e⟩ := hit'
      rw [← List.mem_singleton.mp q, hTe, get_none_ge (Nat.le_refl _)] at e; cases e
    obtain ⟨y, ty, v, tv, hey⟩ := Rx.ent ea[i] (Array.mem_toList_iff.mpr (Array.getElem_mem hlt))
    have hry : rx[i]? = some (y, v) := by
      rw [← Rx.rows, List.getElem?_map]
      have : ea.toList[i]? = some ea[i] := by simp [hlt]
      rw [this, hey]; rfl
    have hok : OkR (y, v) := Rx.ok.ok _ (List.mem_of_getElem? hry)
    rw [hey] at hT₃
    refine assign_two (s := { s with heap := h₄, toks := tk }) hh le.ef S₄ ⟨_, c₄ _ _ hT₃ hTI, rfl, _, rfl⟩ (le.l "word") (le.l "value") fun h₅ tk₅ S₅ c₅ => ?_
    dsimp only at c₅ ⊢
    have nV : updN (updN m' (Str.ofString "word") (.str y ty)) (Str.ofString "value") (.int v tv) (Str.ofString "value") = some (.int v tv) := updN_eq
    have nW : updN (updN m' (Str.ofString "word") (.str y ty)) (Str.ofString "value") (.int v tv) (Str.ofString "word") = some (.str y ty) := updN_ne updN_eq
    have nD : updN (updN m' (Str.ofString "word") (.str y ty)) (Str.ofString "value") (.int v tv) (Str.ofString "due") = some (.ref du) := updN_ne (updN_ne ((ag _ (by decide) (by decide)).trans mDue))
    have ag' : ∀ x, x ≠ Str.ofString "word" → x ≠ Str.ofString "value" → updN (updN m' (Str.ofString "word") (.str y ty)) (Str.ofString "value") (.int v tv) x = m x := fun x n1 n2 => updN_ne (updN_ne (ag x n1 n2) n1) n2
    generalize updN (updN m' (Str.ofString "word") (.str y ty)) (Str.ofString "value") (.int v tv) = m₅ at *
    refine wpAny_execs_cons (wpAny_Assign_Subscript ?_ (by with_unfolding_all rfl))
    refine nL le.ef S₅ (le.l "value") nV ?_
    refine nL le.ef S₅ (le.l "due") nD ?_
    refine nL le.ef S₅ (le.l "word") nW ?_
    have hdu := (S₅.mv (du, plainObj es' ep') (List.mem_append_right _ (.head _))).1
    refine setItem_D (s := { s with heap := h₅, toks := tk₅ }) hdu R' hok fun h₆ es₆ ep₆ tk₆ d₆ R₆ s₆ => ?_
    have S₆ := S₅.upd (Ch.of_same s₆) d₆ hn
    refine wpAny_execs_nil ?_
    refine ⟨ea.size + 1 - (i + 1), by omega, h₆, tk₆, m₅, es₆, ep₆, i + 1, rfl, hlt, rfl, ?_, S₆, by rw [mergeR_take hry]; exact R₆, ag'⟩
    obtain ⟨f0, f1, ok, ov, q, e⟩ := hit₄
    exact ⟨f0, f1, ok, ov, q, (s₆.2 _ (Ne.symm Idu)).trans (c₅ _ _ e (by simpa using IL))⟩
  · have hin : i = ea.size := by omega
    subst hin
    refine nxt_end (s := { s with heap := h', toks := tk }) hh hit' ((Dx.keeps S'.keep).entAt) fun h₃ c₃ => wpAny_execs_nil ?_
    have e : rx.take ea.size = rx := by rw [Rx.size, List.take_length]
    rw [e] at R'
    exact h m' es' ep' h₃ _ (stI S' c₃) R' ag
end
end Mine

set_option Elab.async false
set_option maxRecDepth 100000
set_option maxHeartbeats 8000000
set_option linter.unusedVariables false
open PySem PySem.W PyProof.Rows PySem.Calls
namespace Mine

local macro_rules | `(tactic| walk_at "m_s") => `(tactic| first
  | with_reducible refine wpAny_execs_cons ?_
  | with_reducible refine wpAny_execs_nil ?_
  | with_reducible refine wpAny_If ?_
  | with_reducible refine wpAny_Return_some ?_
  | ((with_reducible refine wpAny_Assign_Name ?_ ?hs); (case hs => with_unfolding_all rfl))
  | ((with_reducible refine wpAny_Assign_Subscript ?_ ?hs); (case hs => with_unfolding_all rfl))
  | with_reducible refine wpAny_BinOp ?_
  | ((with_reducible refine wpAny_Compare1 ?_ ?hm); (case hm => with_unfolding_all rfl))
  | ((with_reducible refine wpAny_isTrue_Compare1 ?_ ?hm); (case hm => with_unfolding_all rfl))
  | with_reducible refine wpAny_Constant_int ?_
  | with_reducible refine Constant_str ?_
  | with_reducible refine Constant_bool ?_
  | with_reducible refine Constant_none ?_
  | with_reducible refine Subscript_ ?_
  | with_reducible refine wpAny_truthy_bool ?_
  | ((with_reducible refine' nL (by assumption) (by assumption) (by assumption) ?hv ?_ ?hd); (case hd => decide); (case hv => first | assumption | with_unfolding_all rfl)))
def mergeAll (rs : Rw) (l : List Rw) : Rw := l.foldl mergeR rs
theorem mergeIts_eq (rs : Rw) (l : List It) : mergeIts rs l = mergeAll rs (plains l) := by
  unfold mergeIts mergeAll plains
  induction l generalizing rs with
  | nil => rfl
  | cons p r ih =>
    rw [List.foldl_cons, ih]
    cases hp : p.2 with
    | none => simp [hp]
    | some q => simp [hp]
theorem mergeAll_take {rs : Rw} {l : List Rw} {i : Nat} {x : Rw} (h : l[i]? = some x) : mergeAll rs (l.take (i + 1)) = mergeR (mergeAll rs (l.take i)) x := by
  simp [mergeAll, List.take_add_one, h, List.foldl_append]
theorem paired_get {α β : Type} {F : α → β → Prop} : ∀ {l₁ : List α} {l₂ : List β}, Paired F l₁ l₂ → ∀ {i : Nat} {x : α}, l₁[i]? = some x → ∃ y, l₂[i]? = some y ∧ F x y
  | _, _, .nil, _, _, h => by simp at h
  | _, _, .cons f t, 0, x, h => by simp at h; subst h; exact ⟨_, rfl, f⟩
  | _, _, .cons f t, i + 1, x, h => by
    obtain ⟨y, a, b⟩ := paired_get t (i := i) (x := x) (by simpa using h)
    exact ⟨y, by simpa using a, b⟩

section
variable {w : World} {A : Around} {E : Value → Shared → Prop} {s : Shared}

/-- for one in plain: for word, value in one.items(): due[word] = value -/
theorem outer_loop {env : Env} {g : Heap} {L cS cM du Pa : Addr} {m : Str → Option Value} {es : Array DictEntry} {ep : Nat} {pre post : List (Addr × Obj)} {rs : Rw} {pv : List Value} {rss : List Rw} {k : Nat} {q1 q2 q3 p1 p2 p3 p4 apos p5 p6 p7 p8 p9 p10 p11 : Pos} {Q : Flow → Shared → Prop}
    (le : LE env L cS cM) (hh : A.handled = none) (Bg : Base w g) (S : St g L m (pre ++ (du, plainObj es ep) :: post) s.heap) (R : RowsIn w es rs) (mPl : m (Str.ofString "plain") = some (.ref Pa)) (hP : g.IsList Pa pv.toArray) (hsz : pv.length ≤ 1000) (hR : Paired (PlainAt w g) pv rss) (mDue : m (Str.ofString "due") = some (.ref du))
    (hn : ∀ p ∈ pre ++ post, p.1 ≠ du) (hline : (apos.endLine == p4.line) = true)
    (h : ∀ m' es' ep' h' tk, St g L m' (pre ++ (du, plainObj es' ep') :: post) h' → RowsIn w es' (mergeAll rs rss) → (∀ x, x ≠ Str.ofString "one" → x ≠ Str.ofString "word" → x ≠ Str.ofString "value" → m' x = m x) → Q .next { s with heap := h', toks := tk }) :
    wpAny (model Pg w) A (exec (.For (.Name (Str.ofString "one") q1) (.Name (Str.ofString "plain") q2) [.For (.Tuple [.Name (Str.ofString "word") p1, .Name (Str.ofString "value") p2] k p3) (.Call (.Attribute (.Name (Str.ofString "one") p5) (Str.ofString "items") apos) [] [] p4)
      [.Assign [.Subscript (.Name (Str.ofString "due") p6) (.Name (Str.ofString "word") p7) p8] (.Name (Str.ofString "value") p9) p10] [] p11] [] q3) env) Q E s := by
  obtain ⟨oP, hoP, rP⟩ := id hP
  refine for_walk (nL le.ef S (le.l "plain") mPl (wpAny_pyIter_list ⟨oP, S.keep _ _ hoP, rP⟩ ?_))
  have hit : (s.heap.push { cls := .type "list_iterator", data := .fields #[.ref Pa, .int 0 0] }).get? s.heap.objs.size = some { cls := .type "list_iterator", data := .fields #[.ref Pa, .int 0 0] } := Heap.get?_push_size _ rfl
  have k₁ := Le.push s.heap { cls := .type "list_iterator", data := .fields #[.ref Pa, .int 0 0] }
  have hIn : s.heap.get? s.heap.objs.size = none := get_none_ge (Nat.le_refl _)
  generalize s.heap.push { cls := .type "list_iterator", data := .fields #[.ref Pa, .int 0 0] } = h₁ at *
  generalize s.heap.objs.size = I at *
  have S₁ := S.le k₁
  have IL : I ≠ L := S.ne hIn
  have gI : g.get? I = none := S.none hIn
  have PI : Pa ≠ I := fun q => by rw [q, gI] at hoP; cases hoP
  have Imv : ∀ p ∈ pre ++ post, p.1 ≠ I := fun p hp => S.neMut hIn p (by rcases List.mem_append.mp hp with q | q; exact List.mem_append_left _ q; exact List.mem_append_right _ (.tail _ q))
  have Idu : du ≠ I := S.neMut hIn (du, plainObj es ep) (List.mem_append_right _ (.head _))
  have stI : ∀ {m' es' ep'} {h h' : Heap}, St g L m' (pre ++ (du, plainObj es' ep') :: post) h → Ch [I] h h' → St g L m' (pre ++ (du, plainObj es' ep') :: post) h' := fun {m' es' ep' h h'} S c =>
    S.ch c (by simpa using Ne.symm IL) (by simpa [Off] using gI) fun p hp => by
      rcases List.mem_append.mp hp with q | q
      · simpa using Imv p (List.mem_append_left _ q)
      · rcases List.mem_cons.mp q with rfl | q
        · simpa using Idu
        · simpa using Imv p (List.mem_append_right _ q)
  refine ⟨I, [I, Pa], [I], pv.toArray.size, _, _, fun i h => ∃ m' es' ep', St g L m' (pre ++ (du, plainObj es' ep') :: post) h ∧ RowsIn w es' (mergeAll rs (rss.take i)) ∧ (∀ x, x ≠ Str.ofString "one" → x ≠ Str.ofString "word" → x ≠ Str.ofString "value" → m' x = m x), rfl,
    ⟨Walks.list hh I Pa PI pv.toArray, fun _ => rfl, ⟨⟨_, hit, rfl, rfl⟩, ⟨oP, S₁.keep _ _ hoP, rP⟩⟩, ⟨m, es, ep, S₁, by simpa [mergeAll] using R, fun _ _ _ _ => rfl⟩, ?_, ?_, ?_⟩⟩
  · rintro i h h' ⟨m', es', ep', a, b, c⟩ hc
    exact ⟨m', es', ep', stI a hc, b, c⟩
  · rintro i v h tk E' hi hv ⟨m', es', ep', S', R', ag⟩ ⟨⟨oI, hoI, rI⟩, hP'⟩
    have hv' : pv[i]? = some v := by simpa using hv
    obtain ⟨rx, hrx, a, rfl, Da⟩ := paired_get hR hv'
    have Sx : St g L m' (pre ++ (du, plainObj es' ep') :: (post ++ [(I, oI)])) h := by
      refine ⟨S'.ns, S'.keep, S'.off, fun p hp => ?_⟩
      rcases List.mem_append.mp hp with q | q
      · exact S'.mv p (List.mem_append_left _ q)
      · rcases List.mem_cons.mp q with q | q
        · exact S'.mv p (List.mem_append_right _ (q ▸ .head _))
        · rcases List.mem_append.mp q with q | q
          · exact S'.mv p (List.mem_append_right _ (.tail _ q))
          · rw [List.mem_singleton.mp q]; exact ⟨hoI, IL, gI⟩
    refine wpAny_assign_Name (sL' le.ef Sx (le.l "one") fun h₂ S₂ c₂ => wpAny_execs_cons ?_)
    have nOne : updN m' (Str.ofString "one") (.ref a) (Str.ofString "one") = some (.ref a) := updN_eq
    have nDue : updN m' (Str.ofString "one") (.ref a) (Str.ofString "due") = some (.ref du) := updN_ne ((ag _ (by decide) (by decide) (by decide)).trans mDue)
    refine inner_loop (s := { s with heap := h₂, toks := tk + 1 }) le hh Bg S₂ R' nOne Da nDue (fun p hp => ?_) hline fun m₃ es₃ ep₃ h₃ tk₃ S₃ R₃ ag₃ => wpAny_execs_nil ?_
    · rcases List.mem_append.mp hp with q | q
      · exact hn p (List.mem_append_left _ q)
      · rcases List.mem_append.mp q with q | q
        · exact hn p (List.mem_append_right _ q)
        · rw [List.mem_singleton.mp q]; exact Ne.symm Idu
    · refine ⟨h₃, tk₃, rfl, ⟨m₃, es₃, ep₃, S₃.sub fun p hp => ?_, by rw [mergeAll_take hrx]; exact R₃, fun x n1 n2 n3 => (ag₃ x n2 n3).trans (updN_ne (ag x n1 n2 n3) n1)⟩, fun b hb o e => ?_⟩
      · rcases List.mem_append.mp hp with q | q
        · exact List.mem_append_left _ q
        · rcases List.mem_cons.mp q with q | q
          · exact List.mem_append_right _ (q ▸ .head _)
          · exact List.mem_append_right _ (.tail _ (List.mem_append_left _ q))
      · rcases List.mem_cons.mp hb with rfl | hb
        · have := (S₃.mv (b, oI) (List.mem_append_right _ (.tail _ (List.mem_append_right _ (.head _))))).1
          rw [e] at hoI; cases hoI; exact this
        · rw [List.mem_singleton.mp hb] at e ⊢
          rw [S'.keep _ _ hoP] at e; cases e; exact S₃.keep _ _ hoP
  · rintro h' tk ⟨m', es', ep', S', R', ag⟩
    have e : rss.take pv.toArray.size = rss := List.take_of_length_le (by have := hR.length; simp; omega)
    rw [e] at R'
    exact h m' es' ep' h' tk S' R' ag
end
end Mine

set_option Elab.async false
set_option maxRecDepth 100000
set_option maxHeartbeats 8000000
set_option linter.unusedVariables false
open PySem PySem.W PyProof.Rows PySem.Calls
namespace Mine

local macro_rules | `(tactic| walk_at "m_s") => `(tactic| first
  | with_reducible refine wpAny_execs_cons ?_
  | with_reducible refine wpAny_execs_nil ?_
  | with_reducible refine wpAny_If ?_
  | with_reducible refine wpAny_Return_some ?_
  | ((with_reducible refine wpAny_Assign_Name ?_ ?hs); (case hs => with_unfolding_all rfl))
  | ((with_reducible refine wpAny_Assign_Subscript ?_ ?hs); (case hs => with_unfolding_all rfl))
  | with_reducible refine wpAny_BinOp ?_
  | ((with_reducible refine wpAny_Compare1 ?_ ?hm); (case hm => with_unfolding_all rfl))
  | ((with_reducible refine wpAny_isTrue_Compare1 ?_ ?hm); (case hm => with_unfolding_all rfl))
  | with_reducible refine wpAny_Constant_int ?_
  | with_reducible refine Constant_str ?_
  | with_reducible refine Constant_bool ?_
  | with_reducible refine Constant_none ?_
  | with_reducible refine Subscript_ ?_
  | with_reducible refine wpAny_truthy_bool ?_
  | ((with_reducible refine' nL (by assumption) (by assumption) (by assumption) ?hv ?_ ?hd); (case hd => decide); (case hv => first | assumption | with_unfolding_all rfl)))
open PySem.SeqAt PySem.MeetsSeq PySem.MeetsSeq2 PySem.MeetsSeq3 PySem.SeqRoads2 AutoSeq1
def kvsOf (es : Array DictEntry) : List (Str × Value) := es.toList.map fun e => ((rowOf e).1, e.val)
theorem pairs_of {w : World} : ∀ {l : List DictEntry}, (∀ e ∈ l, EntOk w e) → Pairs (strKind Pg w) l (l.map fun e => ((rowOf e).1, e.val))
  | [], _ => .nil
  | e :: r, h => by
    obtain ⟨x, t, v, t', he⟩ := h e (.head _)
    refine .cons ?_ rfl (pairs_of fun y hy => h y (.tail _ hy))
    rw [he]; exact strKind_is Pg w x t
theorem kvs_keys {w : World} {es : Array DictEntry} {rs : Rw} (R : RowsIn w es rs) : (kvsOf es).map (·.1) = rs.map (·.1) := by
  unfold kvsOf
  rw [← R.rows, List.map_map, List.map_map]; rfl
theorem dictOf {w : World} {h : Heap} {a : Addr} {es : Array DictEntry} {ep : Nat} {rs : Rw} (D : DAt false h a es ep) (R : RowsIn w es rs) : h.DictOf (strKind Pg w) a (kvsOf es) := by
  obtain ⟨_, dd, ho, hd⟩ := D
  subst hd
  exact Heap.dictOf_iff.mpr ⟨_, ho, es, ep, ⟨rfl, rfl, rfl⟩, rfl, R.keysOf, pairs_of R.ent, by rw [kvs_keys R]; exact R.ok.nd⟩
theorem valueAt_of {kvs : List (Str × Value)} {k : Str} {v : Value} (hn : (kvs.map (·.1)).Nodup) (h : (k, v) ∈ kvs) : valueAt kvs k = some v := by
  unfold valueAt
  induction kvs with
  | nil => cases h
  | cons p r ih =>
    rw [List.map_cons, List.nodup_cons] at hn
    rw [List.find?_cons]
    by_cases hp : p.1 = k
    · rw [decide_eq_true hp]
      rcases List.mem_cons.mp h with e | e
      · rw [← e]; rfl
      · exact absurd (hp ▸ List.mem_map_of_mem (f := (·.1)) e) hn.1
    · rw [decide_eq_false hp]
      rcases List.mem_cons.mp h with e | e
      · rw [← e] at hp; exact absurd rfl hp
      · exact ih hn.2 e

section
variable {w : World} {A : Around} {E : Value → Shared → Prop} {s : Shared}

theorem hits_of {es es' : Array DictEntry} {rs : Rw} (R : RowsIn w es rs) (R' : RowsIn w es' rs) (B : Around) : ∀ (l : List DictEntry), (∀ e ∈ l, e ∈ es.toList) → KeqHits B s (kvsOf es') (l.map fun e => ((rowOf e).1, e.val)) true
  | [], _ => .nil
  | e :: r, h => by
    have he := h e (.head _)
    obtain ⟨j, hj⟩ := List.getElem?_of_mem he
    obtain ⟨e', x, t, t', v, u, u', he', e1, e2⟩ := ent_pair R R' hj
    have hm : (x, Value.int v u') ∈ kvsOf es' := by
      unfold kvsOf
      refine List.mem_map.mpr ⟨e', List.mem_of_getElem? he', ?_⟩
      rw [e2]; rfl
    have hv := valueAt_of (by rw [kvs_keys R']; exact R'.ok.nd) hm
    have := KeqHits.hit (A := B) (s := s) (kb := kvsOf es') (k := x) (v := .int v u) (e := true) hv (by have := (EqGives.int v v u u').at B s; rw [beq_self_eq_true] at this; exact this) (hits_of R R' B r fun y hy => h y (.tail _ hy))
    rw [e1]; exact this

theorem eq_dicts {a b : Addr} {rs : Rw} {Q : Value → Shared → Prop} (Da : Rows w false s.heap a rs) (Db : Rows w false s.heap b rs) (hu : A.units < 5000) (h : Q (.bool true) s) : wpAny (model Pg w) A (compareOp .Eq (.ref a) (.ref b)) Q E s := by
  obtain ⟨ea, epa, D, R⟩ := Da
  obtain ⟨eb, epb, D', R'⟩ := Db
  have l1 : (kvsOf ea).length = (kvsOf eb).length := by
    have h1 := congrArg List.length (kvs_keys R)
    have h2 := congrArg List.length (kvs_keys R')
    simp only [List.length_map] at h1 h2
    omega
  refine keq_eq (r := true) D.sys D'.sys (dictOf D R) (dictOf D' R') (by show A.units < 9900; omega) (fun _ => hits_of R R' _ ea.toList fun e he => he) ?_
  rw [l1]; simpa using h

theorem eq_empty {a b : Addr} {rs : Rw} {Q : Value → Shared → Prop} (Da : Rows w false s.heap a rs) (Db : Rows w false s.heap b []) (hu : A.units < 5000) (h : Q (.bool rs.isEmpty) s) : wpAny (model Pg w) A (compareOp .Eq (.ref a) (.ref b)) Q E s := by
  obtain ⟨ea, epa, D, R⟩ := Da
  obtain ⟨eb, epb, D', R'⟩ := Db
  have h1 : (kvsOf ea).length = rs.length := by simpa using congrArg List.length (kvs_keys R)
  have h2 : (kvsOf eb).length = 0 := by simpa using congrArg List.length (kvs_keys R')
  refine keq_eq (r := true) D.sys D'.sys (dictOf D R) (dictOf D' R') (by show A.units < 9900; omega) (fun e => ?_) ?_
  · have : kvsOf ea = [] := List.eq_nil_of_length_eq_zero (by omega)
    rw [this]; exact .nil
  · rw [h1, h2]
    have : ((rs.length == 0) && true) = rs.isEmpty := by cases rs <;> rfl
    rw [this]; exact h

theorem eqBool_dicts {a b : Addr} {rs : Rw} {Q : Bool → Shared → Prop} (Da : Rows w false s.heap a rs) (Db : Rows w false s.heap b rs) (hu : A.units < 5000) (h : Q true s) : wpAny (model Pg w) A (eqBool (.ref a) (.ref b)) Q E s := by
  by_cases hab : a = b
  · subst hab; exact (EqAt.same (A := A) (s := s) (.ref a)) Pg w E Q h
  · unfold eqBool
    refine wpAny_holding ?_
    refine wpAny_ite_split (fun q => absurd (by have := eq_of_beq q; injection this) hab) (fun _ => ?_)
    exact wpAny_bind (eq_dicts Da Db hu (wpAny_truthy_bool h))

theorem ne_loopW {l b : Addr} {items items2 : Array Value} {n n2 : Nat} {dd dd2 : Option Addr} {sl sl2 : Array (Option Value)} {R : Result → Shared → Prop} (hsz : items.size = items2.size)
    (hl : s.heap.get? l = some { cls := .type "list", dict := dd, data := .seq items n, slots := sl }) (hb : s.heap.get? b = some { cls := .type "list", dict := dd2, data := .seq items2 n2, slots := sl2 })
    (he : ∀ (E : Value → Shared → Prop) (Q : Bool → Shared → Prop) j (h1 : j < items.size) (h2 : j < items2.size), Q true s → wpAny (model Pg w) A.in1 (eqBool items[j] items2[j]) Q E s) (h : R (.ok (.ret (.bool false))) s) :
    ∀ k i : Nat, items.size - i = k → wpAny (model Pg w) A.in1 (Builtin.«list.__eq__.loop» ⟨[.ref l, .ref b, rawInt i, rawInt 3], []⟩) (fun fin s' => match fin with | .done f => R (.ok f) s' | .again c' => c'.quiet = true ∧ codeAny (model Pg w) A c' R s') (fun e s' => R (.error e) s') s := by
  intro k
  obtain ⟨hp, g, d, tk, os⟩ := s
  induction k with
  | zero =>
    intro i hk
    wp_walk using wpAny_loadPart' hl, wpAny_loadPart' hb
    have hi1 : items[((i : Nat) : Int).toNat]? = none := by simp; omega
    have hi2 : items2[((i : Nat) : Int).toNat]? = none := by simp; omega
    rw [hi1, hi2]
    wp_walk using wpAny_loadPart' hl, wpAny_loadPart' hb
    show R (.ok (.ret (.bool (items.size != items2.size)))) _
    rw [hsz]
    simpa using h
  | succ k ih =>
    intro i hk
    wp_walk using wpAny_loadPart' hl, wpAny_loadPart' hb
    have hlt : i < items.size := by omega
    have hlt2 : i < items2.size := by omega
    have hi1 : items[((i : Nat) : Int).toNat]? = some items[i] := by simp [hlt]
    have hi2 : items2[((i : Nat) : Int).toNat]? = some items2[i] := by simp [hlt2]
    have hc : ((i : Int) + 1) = ((i + 1 : Nat) : Int) := by push_cast; rfl
    rw [hi1, hi2]
    refine wpAny_bind (he _ _ i hlt hlt2 ?_)
    wp_walk
    rw [hc]
    exact ⟨plainId_quiet plain_eq_loop _, codeAny_builtin entry_eq_loop (by
      rw [Around.under_plainId plain_eq_loop _]
      exact ih (i + 1) (by omega))⟩

theorem ne_lists {l b : Addr} {items items2 : Array Value} {Q : Value → Shared → Prop} (hl : s.heap.IsList l items) (hb : s.heap.IsList b items2) (hsz : items.size = items2.size) (hu : A.units < 5000)
    (he : ∀ (E : Value → Shared → Prop) (Q : Bool → Shared → Prop) j (h1 : j < items.size) (h2 : j < items2.size), Q true s → wpAny (model Pg w) A.in1 (eqBool items[j] items2[j]) Q E s) (h : Q (.bool false) s) :
    wpAny (model Pg w) A (compareOp .NotEq (.ref l) (.ref b)) Q E s := by
  obtain ⟨⟨cls, dd, data, sl⟩, ho, hc, n, hd⟩ := id hl
  obtain ⟨⟨cls2, dd2, data2, sl2⟩, ho2, hc2, n2, hd2⟩ := id hb
  simp only at hc hd hc2 hd2
  subst hc hd hc2 hd2
  refine wpAny_richCompare_same_room (op := .NotEq) (T := "list") ⟨_, ho, rfl⟩ ⟨_, ho2, rfl⟩ PySem.F.slot_list_ne ?_ (by show A.units < 9900; omega)
  refine wpAny_call (codeAny_call_builtin PySem.F.slot_list_ne.plain PySem.F.entry_list_ne (PySem.F.slot_list_ne.check _ _ _ _ _ _ _ _ ⟨_, ho, rfl⟩ (PySem.F.args_list_ne_2 _ _) ?_))
  have fin := fun (R : Result → Shared → Prop) h => ne_loopW (w := w) (A := A) (s := s) (l := l) (b := b) (R := R) hsz ho ho2 he h _ 0 rfl
  obtain ⟨hp, g, d, tk, os⟩ := s
  have f3 := AutoSeq1.sub_list_list
  have hne : ¬ (items.size != items2.size) = true := by simp [hsz]
  wp_walk using wpAny_loadPart' ho, wpAny_loadPart' ho2
  refine ⟨plainId_quiet plain_eq_loop _, codeAny_builtin entry_eq_loop ?_⟩
  rw [Around.under_plainId plain_eq_loop _]
  exact fin (fun r s' => match r with | .ok (.ret v) => v ≠ .notImplemented ∧ Q v s' | .ok _ => False | .error e => E e s') ⟨(fun x => nomatch x), h⟩
end
end Mine

set_option Elab.async false
set_option maxRecDepth 100000
set_option maxHeartbeats 8000000
set_option linter.unusedVariables false
open PySem PySem.W PyProof.Rows PySem.Calls
namespace Mine

theorem mergeIts_filter (l : List It) : ∀ rs : Rw, mergeIts rs l = mergeIts rs (l.filter filledIt) := by
  induction l with
  | nil => intro rs; rfl
  | cons p r ih =>
    intro rs
    cases hf : filledIt p with
    | true =>
      rw [List.filter_cons_of_pos hf]
      show mergeIts _ r = mergeIts _ (r.filter filledIt)
      exact ih _
    | false =>
      rw [List.filter_cons_of_neg (by rw [hf]; decide)]
      have := mergeIts_skip (rs := rs) (l := p :: r) (i := 0) (p := p) rfl hf
      have e : mergeIts rs (p :: r) = mergeIts (mergeIts rs ((p :: r).take 1)) r := rfl
      rw [e, this]
      exact ih _
theorem filled_rows {w : World} {h : Heap} {p : It} (o : Oth w h p.1 p.2) (hf : filledIt p = true) : ∃ im a r, p.1 = .ref a ∧ p.2 = some (im, r) ∧ Rows w im h a r := by
  rcases o with ⟨_, z⟩ | ⟨im, a, r, z, z', R⟩
  · unfold filledIt at hf; rw [z] at hf; cases hf
  · exact ⟨im, a, r, z, z', R⟩
theorem res_rows {w : World} {h₀ h' : Heap} {c : Addr} {rs : Rw} {l : List It} {v : Value} (r : Res w h₀ h' c rs l v) (D : Rows w true h' c rs) (hl : ∀ p ∈ l, Oth w h' p.1 p.2) : ∃ a, v = .ref a ∧ Rows w true h' a (mergeIts rs l) := by
  rcases r with ⟨a, b⟩ | ⟨a, p, b, c', d⟩ | ⟨_, a, b, c'⟩
  · refine ⟨c, b, ?_⟩
    rw [mergeIts_filter, a]; exact D
  · have hp : p ∈ l.filter filledIt := by rw [b]; exact .head _
    obtain ⟨hm, hf⟩ := List.mem_filter.mp hp
    obtain ⟨im, x, r, e1, e2, R⟩ := filled_rows (hl p hm) hf
    have : im = true := by unfold imIt at c'; rw [e2] at c'; exact c'
    subst this
    refine ⟨x, d.trans e1, ?_⟩
    have e3 : mergeIts rs l = r := by
      rw [mergeIts_filter, b, a]
      obtain ⟨es, ep, _, R'⟩ := R
      show (match p.2 with | some (_, r) => mergeR [] r | none => []) = r
      rw [e2]
      exact mergeR_of_nil R'.ok
    rw [e3]; exact R
  · exact ⟨a, b, c'.rows⟩
end Mine

set_option Elab.async false
set_option maxRecDepth 100000
set_option maxHeartbeats 8000000
set_option linter.unusedVariables false
open PySem PySem.W PyProof.Rows PySem.Calls
namespace Mine

local macro_rules | `(tactic| walk_at "m_s") => `(tactic| first
  | with_reducible refine wpAny_execs_cons ?_
  | with_reducible refine wpAny_execs_nil ?_
  | with_reducible refine wpAny_If ?_
  | with_reducible refine wpAny_Return_some ?_
  | ((with_reducible refine wpAny_Assign_Name ?_ ?hs); (case hs => with_unfolding_all rfl))
  | ((with_reducible refine wpAny_Assign_Subscript ?_ ?hs); (case hs => with_unfolding_all rfl))
  | with_reducible refine wpAny_BinOp ?_
  | ((with_reducible refine wpAny_Compare1 ?_ ?hm); (case hm => with_unfolding_all rfl))
  | ((with_reducible refine wpAny_isTrue_Compare1 ?_ ?hm); (case hm => with_unfolding_all rfl))
  | with_reducible refine wpAny_Constant_int ?_
  | with_reducible refine Constant_str ?_
  | with_reducible refine Constant_bool ?_
  | with_reducible refine Constant_none ?_
  | with_reducible refine Subscript_ ?_
  | with_reducible refine wpAny_truthy_bool ?_
  | ((with_reducible refine' nL (by assumption) (by assumption) (by assumption) ?hv ?_ ?hd); (case hd => decide); (case hv => first | assumption | with_unfolding_all rfl)))
open PySem.SeqAt
theorem St.lower {g g' h : Heap} {L : Addr} {m mv} (S : St g' L m mv h) (k : Le g g') : St g L m mv h := by
  have no : ∀ {b}, g'.get? b = Option.none → g.get? b = Option.none := fun {b} e => by
    cases q : g.get? b with
    | none => rfl
    | some o => rw [k _ _ q] at e; cases e
  exact ⟨S.ns, fun b o e => S.keep _ _ (k _ _ e), no S.off, fun p hp => ⟨(S.mv p hp).1, (S.mv p hp).2.1, no (S.mv p hp).2.2⟩⟩

section
variable {w : World} {A : Around} {E : Value → Shared → Prop} {s : Shared}

theorem emptyList {env : Env} {pos : Pos} {Q : Value → Shared → Prop} (h : ∀ h', Le s.heap h' → h'.IsList s.heap.objs.size #[] → Q (.ref s.heap.objs.size) { s with heap := h' }) : wpAny (model Pg w) A (eval (.List [] pos) env) Q E s := by
  refine List_ ?_
  show wpAny _ _ (spliced []) _ _ _
  refine spliced_nil ?_
  exact wpAny_newObj_type (h _ (Le.push _ _) ⟨_, Heap.get?_push_size _ rfl, rfl, _, rfl⟩)
theorem emptyDict {env : Env} {pos : Pos} {Q : Value → Shared → Prop} (B : Base w s.heap) (h : ∀ h', Le s.heap h' → Rows w false h' s.heap.objs.size [] → Q (.ref s.heap.objs.size) { s with heap := h' }) : wpAny (model Pg w) A (eval (.Dict [] [] pos) env) Q E s := by
  rw [eval_Dict_empty]
  refine wpAny_bind (wpAny_standAt (wpAny_newObj_type ?_))
  exact h _ (Le.push _ _) ⟨#[], 0, ⟨B.fresh_sys, Option.none, Heap.get?_push_size _ rfl, rfl⟩, .nil w⟩

/-- [one for one in filled if one is made] -/
theorem made_turn {env : Env} {g : Heap} {L cM : Addr} {vs : List Value} {am : Addr} {scope : Scope} {p2 p4 p5 p6 p7 : Pos} {oM : Obj} (EE : EF env L) (hM : s.heap.get? cM = some oM) (hoM : oM.data = .cell (some (.ref am)))
    (hv : ∀ v ∈ vs, ∃ a o, v = .ref a ∧ a ≠ am ∧ g.get? a = some o ∧ o.cls ≠ .type "tuple") (hma : ∃ o, g.get? am = some o)
    (hk : scope.kind = .function) (h1 : scope.names.lookup (Str.ofString "one") = some .local) (h2 : scope.names.lookup (Str.ofString "made") = some .free) (hfk : env.scope.kind = .function) (hfc : env.kindOf (Str.ofString "made") = some .cell) :
    TurnPlan w A env (.Name (Str.ofString "one") p2) (.Name (Str.ofString "one") p4) [.Compare (.Name (Str.ofString "one") p5) [.Is] [.Name (Str.ofString "made") p6] p7] scope [(Str.ofString "made", cM)] g s vs.toArray
      (fun _ ys _ => ys = []) where
  ht := fun _ _ => .inr trivial
  mono := fun i ys g₁ g₂ k h => h
  zero := fun g' _ => rfl
  turn := by
    intro T C i v ys gT m₃ s₃ E' hT hCT hi sC Sc ho kg hR hls
    have hvm : v ∈ vs := by
      simp only [List.getElem?_toArray] at hi
      exact List.mem_of_getElem? hi
    obtain ⟨a, o, rfl, hne, hga, hcl⟩ := hv v hvm
    obtain ⟨om, hgm⟩ := hma
    have EC := EE.comp (C := C) (scope := scope) (cl := [(Str.ofString "made", cM)]) hk
    have c1 : (compEnvC scope [(Str.ofString "made", cM)] C env).kindOf (Str.ofString "one") = some .local := kind_keep h1 (by decide)
    have c2 : (compEnvC scope [(Str.ofString "made", cM)] C env).kindOf (Str.ofString "made") = some .cell := kind_cell h2 hfk hfc
    have cc : (compEnvC scope [(Str.ofString "made", cM)] C env).cells.lookup (Str.ofString "made") = some cM := rfl
    generalize compEnvC scope [(Str.ofString "made", cM)] C env = cenv at *
    refine wpAny_assign_Name (sL' EC Sc c1 fun h₄ S₄ cs => wpAny_tests_one ?_)
    have n1 : updN m₃ (Str.ofString "one") (.ref a) (Str.ofString "one") = some (.ref a) := updN_eq
    generalize updN m₃ (Str.ofString "one") (.ref a) = m₄ at *
    have cel : h₄.IsCell cM (some (.ref am)) := ⟨oM, cs _ _ (hls _ _ hM) (by simpa using ne_none hM sC), hoM⟩
    refine wpAny_isTrue_Compare1 ?_ (by with_unfolding_all rfl)
    refine nL EC S₄ c1 n1 ?_
    refine nC EC c2 cc cel ?_ (by decide)
    refine wpAny_is_ref_other hne (S₄.keep _ _ (kg _ _ hga)) (S₄.keep _ _ (kg _ _ hgm)) hcl ?_
    refine wpAny_truthy_bool ?_
    rw [if_neg (by decide)]
    exact .of (g' := gT) (m' := m₄) rfl cs S₄.ns hR

theorem law_check {env : Env} {g : Heap} {L cS cM F cur rw : Addr} {m : Str → Option Value} {mv : List (Addr × Obj)} {oM : Obj} {rs : Rw} {its : List It} {vM : Value} {Q : Flow → Shared → Prop} (le : LE env L cS cM) (O : Ok A 5) (Bg : Base w g) (S : St g L m mv s.heap)
    (hcM : (cM, oM) ∈ mv) (hoM : oM.data = .cell (some vM)) (mF : m (Str.ofString "filled") = some (.ref F)) (hF : g.IsList F ((its.filter filledIt).map (·.1)).toArray) (hlen : its.length ≤ 5) (mC : m (Str.ofString "current") = some (.ref cur)) (mR : m (Str.ofString "rows") = some (.ref rw))
    (Dc : Rows w true g cur rs) (Dr : Rows w false g rw rs) (hits : ∀ p ∈ its, Oth w g p.1 p.2)
    (hRes : (its.filter filledIt = [] ∧ vM = .ref cur) ∨ (rs = [] ∧ ∃ p, its.filter filledIt = [p] ∧ imIt p = true ∧ vM = p.1) ∨ (Many rs its ∧ ∃ a o, vM = .ref a ∧ g.get? a = some o ∧ o.cls ≠ .type "tuple" ∧ a ≠ cur ∧ ∀ p ∈ its, p.1 ≠ .ref a))
    (h : ∀ h' tk, St g L m mv h' → Q .next { s with heap := h', toks := tk }) : wpAny (model Pg w) A (exec (stm w.params 7) env) Q E s := by
  have he : stm w.params 7 = .If _ _ _ _ := rfl
  rw [he]
  clear he
  have cell : ∀ {h'}, St g L m mv h' → h'.IsCell cM (some vM) := fun S => ⟨oM, (S.mv _ hcM).1, hoM⟩
  have lF : ∀ {h'}, Le g h' → h'.IsList F ((its.filter filledIt).map (·.1)).toArray := fun k => let ⟨o, e, r⟩ := hF; ⟨o, k _ _ e, r⟩
  refine wpAny_If (wpAny_isTrue_Compare1 ?_ (by with_unfolding_all rfl))
  refine nL le.ef S (le.l "filled") mF ?_
  refine emptyList fun h₁ k₁ e₁ => ?_
  have S₁ := S.le k₁
  by_cases hz : its.filter filledIt = []
  · refine eq_listAt (e := fun _ => true) (s := { s with heap := h₁ }) (lF S₁.keep) e₁ (by rw [hz]; rfl) (by show A.units < 9900; have := O.units; omega) (fun j h1 h2 => absurd h2 (Nat.not_lt_zero _)) ?_
    rw [List.all_eq_true.mpr fun _ _ => rfl]
    refine wpAny_truthy_bool ?_
    show wpAny _ _ (execs _ _) _ _ _
    refine wpAny_execs_cons (wpAny_If (wpAny_isTrue_Compare1 ?_ (by with_unfolding_all rfl)))
    have hv : vM = .ref cur := by
      rcases hRes with ⟨_, b⟩ | ⟨_, p, b, _⟩ | ⟨⟨b, _⟩, _⟩
      · exact b
      · rw [hz] at b; cases b
      · exact absurd hz b
    refine nC le.ef le.kM le.cM (cell S₁) ?_ (by decide)
    refine nL le.ef S₁ (le.l "current") mC ?_
    rw [hv]
    refine wpAny_isNot_ref_self ?_
    refine wpAny_truthy_bool ?_
    show wpAny _ _ (execs _ _) _ _ _
    refine wpAny_execs_nil (wpAny_execs_nil ?_)
    exact h _ _ S₁
  · have hsz : ((its.filter filledIt).map (·.1)).toArray.size = (its.filter filledIt).length := by simp
    have hpos : (its.filter filledIt).length ≠ 0 := fun q => hz (List.eq_nil_of_length_eq_zero q)
    refine eq_list_lengthsAt (s := { s with heap := h₁ }) (lF S₁.keep) e₁ (by rw [hsz]; simpa using hpos) (by show A.units < 9900; have := O.units; omega) ?_
    refine wpAny_truthy_bool ?_
    show wpAny _ _ (execs _ _) _ _ _
    refine wpAny_execs_cons (wpAny_If ?_)
    have hle : (its.filter filledIt).length ≤ its.length := List.length_filter_le _ _
    -- the last question of all: not the one, and none of the others
    have other : ∀ h₂ tk, St g L m mv h₂ → ¬ (rs = [] ∧ ∃ p, its.filter filledIt = [p] ∧ imIt p = true) → wpAny (model Pg w) A (execs (match stm w.params 7 with | .If _ _ o _ => (match o with | (.If _ _ o' _) :: _ => o' | _ => []) | _ => []) env) (fun f s₁ => match f with | .next => wpAny (model Pg w) A (execs [] env) Q E s₁ | f => Q f s₁) E { s with heap := h₂, toks := tk } := by
      intro h₂ tk S₂ hno
      obtain ⟨a, om, hv, hga, hcl, hac, hap⟩ : ∃ a o, vM = .ref a ∧ g.get? a = some o ∧ o.cls ≠ .type "tuple" ∧ a ≠ cur ∧ ∀ p ∈ its, p.1 ≠ .ref a := by
        rcases hRes with ⟨b, _⟩ | ⟨b, p, c, d, _⟩ | ⟨_, a, o, q1, q2, q3, q4, q5⟩
        · exact absurd b hz
        · exact absurd ⟨b, p, c, d⟩ hno
        · exact ⟨a, o, q1, q2, q3, q4, q5⟩
      obtain ⟨ec, epc, Dc', _⟩ := id Dc
      obtain ⟨_, ddc, hoc, _⟩ := id Dc'
      refine wpAny_execs_cons (wpAny_If ?_)
      refine isTrue_or (wpAny_isTrue_Compare1 ?_ (by with_unfolding_all rfl))
      refine nC le.ef le.kM le.cM (cell S₂) ?_ (by decide)
      refine nL le.ef S₂ (le.l "current") mC ?_
      rw [hv]
      refine wpAny_is_ref_other hac (S₂.keep _ _ hga) (S₂.keep _ _ hoc) hcl ?_
      refine wpAny_truthy_bool ?_
      show wpAny _ _ (isTrue _ _ _) _ _ _
      refine isTrue_or (wpAny_isTrue_Compare1 ?_ (by with_unfolding_all rfl))
      have hvs : ∀ v ∈ (its.filter filledIt).map (·.1), ∃ x o, v = .ref x ∧ x ≠ a ∧ g.get? x = some o ∧ o.cls ≠ .type "tuple" := by
        intro v hvm
        obtain ⟨p, hp, rfl⟩ := List.mem_map.mp hvm
        obtain ⟨hm, hf⟩ := List.mem_filter.mp hp
        obtain ⟨im, x, r, e1, e2, es, ep, D, _⟩ := filled_rows (hits p hm) hf
        obtain ⟨dd, ho⟩ := D.obj
        refine ⟨x, _, e1, fun q => hap p hm (by rw [e1, q]), ho, ?_⟩
        cases im <;> intro q <;> simp [clsV] at q
      refine list_comp_val (s := { s with heap := h₂, toks := tk }) (clo_two rfl le.cM) (by decide +kernel) rfl (by decide +kernel) O.handled S₂ hF (by rw [hsz]; omega) (made_turn (w := w) (A := A) (s := { s with heap := h₂, toks := tk }) (g := g) (vs := (its.filter filledIt).map (·.1)) (am := a) (cM := cM) (oM := oM) le.ef (S₂.mv _ hcM).1 (by rw [hoM, hv]) hvs ⟨_, hga⟩ rfl rfl rfl le.ef.kind le.kM) (fun Q' E' q => nL le.ef S₂ (le.l "filled") mF q) fun D g₃ h₃ tk₃ ys kg₃ S₃ hpl hR kk₃ _ => ?_
      have hR' : ys = [] := hR
      subst hR'
      have S₃' := S₃.lower kg₃
      refine emptyList fun h₄ k₄ e₄ => ?_
      have S₄ := S₃'.le k₄
      obtain ⟨nn, hpl⟩ := hpl
      refine ne_lists (s := { s with heap := h₄, toks := _ }) (items := #[]) (items2 := #[]) ⟨_, k₄ _ _ (S₃.keep _ _ hpl), rfl, _, rfl⟩ e₄ rfl (by have := O.units; omega) (fun E Q j h1 _ _ => absurd h1 (Nat.not_lt_zero _)) ?_
      refine wpAny_truthy_bool ?_
      show wpAny _ _ (isTrue _ _ _) _ _ _
      refine isTrue_or_nil ?_
      show wpAny _ _ (execs _ _) _ _ _
      refine wpAny_execs_nil (wpAny_execs_nil (wpAny_execs_nil ?_))
      exact h _ _ S₄
    refine isTrue_and (wpAny_isTrue_Compare1 ?_ (by with_unfolding_all rfl))
    refine nL le.ef S₁ (le.l "rows") mR ?_
    refine emptyDict (S₁.base Bg) fun h₂ k₂ e₂ => ?_
    have S₂ := S₁.le k₂
    refine eq_empty (s := { s with heap := h₂ }) (Dr.keeps S₂.keep) e₂ (by have := O.units; omega) ?_
    refine wpAny_truthy_bool ?_
    cases hre : rs.isEmpty with
    | false =>
      show wpAny _ _ (execs _ _) _ _ _
      refine other h₂ _ S₂ fun ⟨q, _⟩ => ?_
      rw [q] at hre; cases hre
    | true =>
      have hr0 : rs = [] := by simpa using hre
      show wpAny _ _ (isTrue _ _ _) _ _ _
      refine isTrue_and (wpAny_isTrue_Compare1 ?_ (by with_unfolding_all rfl))
      refine Call_Name1 (nB le.ef (S₂.base Bg) (le.g "len") (notMine_of "len" (by decide)) boots.1 (by decide) (cwB1 ?_)) rfl
      refine nL le.ef S₂ (le.l "filled") mF ?_
      refine len_list (s := { s with heap := h₂, toks := _ }) (lF S₂.keep) (by rw [hsz]; omega) ?_
      rw [hsz]
      repeat walk_at "m_s"
      refine eq_int ?_
      refine wpAny_truthy_bool ?_
      by_cases h1 : (its.filter filledIt).length = 1
      · obtain ⟨p, hp⟩ : ∃ p, its.filter filledIt = [p] := List.length_eq_one_iff.mp h1
        have hpm : p ∈ its.filter filledIt := by rw [hp]; exact .head _
        obtain ⟨hm, hf⟩ := List.mem_filter.mp hpm
        obtain ⟨im, a, r, e1, e2, Ra⟩ := filled_rows (hits p hm) hf
        obtain ⟨ea, epa, Da, _⟩ := id Ra
        have him : imIt p = im := by unfold imIt; rw [e2]
        have hit0 : ((its.filter filledIt).map (·.1)).toArray[(0 : Int).toNat]? = some (.ref a) := by rw [hp]; simp [e1]
        have : (((its.filter filledIt).length : Int) == 1) = true := by rw [h1]; rfl
        rw [this]
        show wpAny _ _ (isTrue _ _ _) _ _ _
        refine isTrue_and (isTrue_plain ?_)
        refine Call_Name2 (nB le.ef (S₂.base Bg) (le.g "isinstance") (notMine_of "isinstance" (by decide)) boots.2.2.2.2.1 (by decide) (cwB2 ?_)) rfl
        refine Subscript_ (nL le.ef S₂ (le.l "filled") mF (wpAny_Constant_int ?_))
        refine item_any (lF S₂.keep) (by decide) (by decide) hit0 ?_
        refine nK le.ef (S₂.base Bg) (le.g "immutabledict") (gName w.params).2.2.2.2.2.1 ?_ (by decide)
        refine isinst_im (s := { s with heap := h₂, toks := _ }) (S₂.base Bg) (Da.keeps S₂.keep) fun tk₄ => ?_
        refine wpAny_truthy_bool ?_
        cases im with
        | false =>
          show wpAny _ _ (execs _ _) _ _ _
          refine other h₂ _ S₂ fun ⟨_, p', q, q'⟩ => ?_
          rw [hp] at q
          have : p = p' := by injection q
          rw [← this, him] at q'; cases q'
        | true =>
          show wpAny _ _ (isTrue _ _ _) _ _ _
          refine isTrue_and_nil ?_
          show wpAny _ _ (execs _ _) _ _ _
          refine wpAny_execs_cons (wpAny_If (wpAny_isTrue_Compare1 ?_ (by with_unfolding_all rfl)))
          have hv : vM = .ref a := by
            rcases hRes with ⟨b, _⟩ | ⟨_, p', b, _, d⟩ | ⟨⟨_, b⟩, _⟩
            · exact absurd b hz
            · rw [hp] at b
              have : p = p' := by injection b
              rw [d, ← this, e1]
            · exact absurd ⟨hr0, p, hp, him⟩ b
          refine nC le.ef le.kM le.cM (cell S₂) ?_ (by decide)
          refine Subscript_ (nL le.ef S₂ (le.l "filled") mF (wpAny_Constant_int ?_))
          refine item_any (lF S₂.keep) (by decide) (by decide) hit0 ?_
          rw [hv]
          refine wpAny_isNot_ref_self ?_
          refine wpAny_truthy_bool ?_
          show wpAny _ _ (execs _ _) _ _ _
          refine wpAny_execs_nil (wpAny_execs_nil (wpAny_execs_nil ?_))
          exact h _ _ S₂
      · have : (((its.filter filledIt).length : Int) == 1) = false := by
          rw [beq_eq_false_iff_ne]; omega
        rw [this]
        show wpAny _ _ (execs _ _) _ _ _
        refine other h₂ _ S₂ fun ⟨_, p', q, q'⟩ => ?_
        rw [q] at h1; exact h1 rfl
end
end Mine

set_option Elab.async false
set_option maxRecDepth 100000
set_option maxHeartbeats 8000000
set_option linter.unusedVariables false
open PySem PySem.W PyProof.Rows PySem.Calls
namespace Mine

local macro_rules | `(tactic| walk_at "m_s") => `(tactic| first
  | with_reducible refine wpAny_execs_cons ?_
  | with_reducible refine wpAny_execs_nil ?_
  | with_reducible refine wpAny_If ?_
  | with_reducible refine wpAny_Return_some ?_
  | ((with_reducible refine wpAny_Assign_Name ?_ ?hs); (case hs => with_unfolding_all rfl))
  | ((with_reducible refine wpAny_Assign_Subscript ?_ ?hs); (case hs => with_unfolding_all rfl))
  | with_reducible refine wpAny_BinOp ?_
  | ((with_reducible refine wpAny_Compare1 ?_ ?hm); (case hm => with_unfolding_all rfl))
  | ((with_reducible refine wpAny_isTrue_Compare1 ?_ ?hm); (case hm => with_unfolding_all rfl))
  | with_reducible refine wpAny_Constant_int ?_
  | with_reducible refine Constant_str ?_
  | with_reducible refine Constant_bool ?_
  | with_reducible refine Constant_none ?_
  | with_reducible refine Subscript_ ?_
  | with_reducible refine wpAny_truthy_bool ?_
  | ((with_reducible refine' nL (by assumption) (by assumption) (by assumption) ?hv ?_ ?hd); (case hd => decide); (case hv => first | assumption | with_unfolding_all rfl)))

theorem ty107 (P : Params) : typeIn (hd.heap_39 P) (.ref 107) = some (.type "function") := by kernel_rfl
theorem ty100 (P : Params) : typeIn (hd.heap_39 P) (.ref 100) = some (.type "function") := by kernel_rfl
theorem fi107 (P : Params) : fnIn (hd.heap_39 P) 107 = true := by kernel_rfl
theorem fi100 (P : Params) : fnIn (hd.heap_39 P) 100 = true := by kernel_rfl

section
variable {w : World} {A : Around} {E : Value → Shared → Prop} {s : Shared}

theorem list_of_plain {h : Heap} {D : Addr} {vs : Array Value} (hp : h.PlainList D vs) : h.IsList D vs := by
  obtain ⟨n, ho⟩ := hp
  exact ⟨_, ho, rfl, _, rfl⟩

theorem law_plain {env : Env} {g : Heap} {L cS cM D : Addr} {m : Str → Option Value} {mv : List (Addr × Obj)} {its : List It} {Q : Flow → Shared → Prop} (le : LE env L cS cM) (hh : A.handled = none) (Bg : Base w g) (S : St g L m mv s.heap)
    (mO : m (Str.ofString "others") = some (.ref D)) (hD : g.IsList D (its.map (·.1)).toArray) (hits : ∀ p ∈ its, Oth w g p.1 p.2) (hlen : its.length ≤ 5)
    (h : ∀ Pa pv g' h' tk, Le g g' → St g' L (updN m (Str.ofString "plain") (.ref Pa)) mv h' → g'.PlainList Pa (List.toArray pv) → Paired (PlainAt w g') pv (plains its) → Ch [L] s.heap h' → Q .next { s with heap := h', toks := tk }) :
    wpAny (model Pg w) A (exec (stm w.params 1) env) Q E s := by
  have he : stm w.params 1 = .Assign _ _ _ := rfl
  rw [he]
  clear he
  refine list_comp_set (sw_true le.ef.kind (le.l "plain") rfl (by decide)) rfl (by decide +kernel) rfl (by decide +kernel) (le.l "plain") le.ef hh S hD (by simp; omega) (plains_turn le.ef Bg hits rfl rfl rfl) (fun Q' E' q => nL le.ef S (le.l "others") mO q) fun D g' h' tk ys k S' hp R c _ => ?_
  exact h D ys g' h' tk k S' hp (by simpa using R) c

theorem law_filled {env : Env} {g : Heap} {L cS cM D : Addr} {m : Str → Option Value} {mv : List (Addr × Obj)} {its : List It} {Q : Flow → Shared → Prop} (le : LE env L cS cM) (hh : A.handled = none) (Bg : Base w g) (S : St g L m mv s.heap)
    (mO : m (Str.ofString "others") = some (.ref D)) (hD : g.IsList D (its.map (·.1)).toArray) (hits : ∀ p ∈ its, Oth w g p.1 p.2) (hlen : its.length ≤ 5)
    (h : ∀ F g' h' tk, Le g g' → St g' L (updN m (Str.ofString "filled") (.ref F)) mv h' → g'.PlainList F ((its.filter filledIt).map (·.1)).toArray → Ch [L] s.heap h' → Q .next { s with heap := h', toks := tk }) :
    wpAny (model Pg w) A (exec (stm w.params 2) env) Q E s := by
  have he : stm w.params 2 = .Assign _ _ _ := rfl
  rw [he]
  clear he
  refine list_comp_set (sw_true le.ef.kind (le.l "filled") rfl (by decide)) rfl (by decide +kernel) rfl (by decide +kernel) (le.l "filled") le.ef hh S hD (by simp; omega) (filled_turn le.ef Bg hits rfl rfl) (fun Q' E' q => nL le.ef S (le.l "others") mO q) fun D g' h' tk ys k S' hp R c _ => ?_
  have e : ys = (its.filter filledIt).map (·.1) := by simpa using R
  subst e
  exact h D g' h' tk k S' hp c

theorem law_due {env : Env} {g : Heap} {L cS cM rw' : Addr} {m : Str → Option Value} {mv : List (Addr × Obj)} {rs : Rw} {Q : Flow → Shared → Prop} (le : LE env L cS cM) (Bg : Base w g) (S : St g L m mv s.heap)
    (mR : m (Str.ofString "rows") = some (.ref rw')) (Dr : Rows w false g rw' rs)
    (h : ∀ du es ep h' tk, St g L (updN m (Str.ofString "due") (.ref du)) ((du, plainObj es ep) :: mv) h' → RowsIn w es rs → du ≠ sysModules → (∀ p ∈ mv, p.1 ≠ du) → Ch [L] s.heap h' → Q .next { s with heap := h', toks := tk }) :
    wpAny (model Pg w) A (exec (stm w.params 3) env) Q E s := by
  have he : stm w.params 3 = .Assign _ _ _ := rfl
  rw [he]
  clear he
  have B := S.base Bg
  refine wpAny_Assign_Name ?_ rfl
  refine Call_Name1 (nB le.ef B (le.g "dict") (notMine_of "dict" (by decide)) boots.2.2.2.1 (by decide) (cwT1 ?_)) rfl
  refine nL le.ef S (le.l "rows") mR ?_
  refine call_dict_D B (Dr.keeps S.keep) fun d h₁ t₁ N k₁ => ?_
  have fr := N.fresh
  obtain ⟨es, ep, ⟨hsys, dd, ho, hd'⟩, R⟩ := N.rows
  have S₁ := S.le k₁
  refine sL' (s := { s with heap := h₁, toks := _ }) le.ef S₁ (le.l "due") fun h₂ S₂ c₂ => ?_
  have dL : d ≠ L := S.ne fr
  refine h d es ep h₂ _ (S₂.add (c₂ _ _ (by simpa [clsV] using (by cases hd'; exact ho : h₁.get? d = some _)) (by simpa using dL)) dL (S.none fr)) R hsys (S.neMut fr) (fun b o e n => c₂ _ _ (k₁ _ _ e) n)
end
end Mine

set_option Elab.async false
set_option maxRecDepth 100000
set_option maxHeartbeats 8000000
set_option linter.unusedVariables false
open PySem PySem.W PyProof.Rows PySem.Calls
namespace Mine
local macro_rules | `(tactic| walk_at "m_s") => `(tactic| first
  | with_reducible refine wpAny_execs_cons ?_
  | with_reducible refine wpAny_execs_nil ?_
  | with_reducible refine wpAny_If ?_
  | with_reducible refine wpAny_Return_some ?_
  | ((with_reducible refine wpAny_Assign_Name ?_ ?hs); (case hs => with_unfolding_all rfl))
  | ((with_reducible refine wpAny_Assign_Subscript ?_ ?hs); (case hs => with_unfolding_all rfl))
  | with_reducible refine wpAny_BinOp ?_
  | ((with_reducible refine wpAny_Compare1 ?_ ?hm); (case hm => with_unfolding_all rfl))
  | ((with_reducible refine wpAny_isTrue_Compare1 ?_ ?hm); (case hm => with_unfolding_all rfl))
  | with_reducible refine wpAny_Constant_int ?_
  | with_reducible refine Constant_str ?_
  | with_reducible refine Constant_bool ?_
  | with_reducible refine Constant_none ?_
  | with_reducible refine Subscript_ ?_
  | with_reducible refine wpAny_truthy_bool ?_
  | ((with_reducible refine' nL (by assumption) (by assumption) (by assumption) ?hv ?_ ?hd); (case hd => decide); (case hv => first | assumption | with_unfolding_all rfl)))

section
variable {w : World} {A : Around} {E : Value → Shared → Prop} {s : Shared}

structure Dist (cS cM st stg I : Addr) : Prop where
  a : cS ≠ cM
  b : cS ≠ st
  c : cS ≠ stg
  d : cM ≠ st
  e : cM ≠ stg
  f : st ≠ stg
  i1 : I ≠ cS
  i2 : I ≠ cM
  i3 : I ≠ st
  i4 : I ≠ stg
abbrev mv4 (cS : Addr) (oS : Obj) (cM : Addr) (oM : Obj) (st : Addr) (oSt : Obj) (stg : Addr) (oStg : Obj) (I : Addr) (oI : Obj) : List (Addr × Obj) := [(cS, oS), (cM, oM), (st, oSt), (stg, oStg), (I, oI)]

theorem Dist.nst {cS cM st stg I : Addr} {oS oM oStg oI : Obj} (d : Dist cS cM st stg I) : ∀ p ∈ [(cS, oS), (cM, oM)] ++ [(stg, oStg), (I, oI)], p.1 ≠ st := by
  intro p hp
  simp only [List.cons_append, List.nil_append, List.mem_cons, List.not_mem_nil, or_false] at hp
  rcases hp with rfl | rfl | rfl | rfl
  · exact d.b
  · exact d.d
  · exact d.f.symm
  · exact d.i3
theorem Dist.ncM {cS cM st stg I : Addr} {oS oSt oStg oI : Obj} (d : Dist cS cM st stg I) : ∀ p ∈ [(cS, oS)] ++ [(st, oSt), (stg, oStg), (I, oI)], p.1 ≠ cM := by
  intro p hp
  simp only [List.cons_append, List.nil_append, List.mem_cons, List.not_mem_nil, or_false] at hp
  rcases hp with rfl | rfl | rfl | rfl
  · exact d.a
  · exact d.d.symm
  · exact d.e.symm
  · exact d.i2
theorem Dist.nstg {cS cM st stg I : Addr} {oS oM oSt oI : Obj} (d : Dist cS cM st stg I) : ∀ p ∈ [(cS, oS), (cM, oM), (st, oSt)] ++ [(I, oI)], p.1 ≠ stg := by
  intro p hp
  simp only [List.cons_append, List.nil_append, List.mem_cons, List.not_mem_nil, or_false] at hp
  rcases hp with rfl | rfl | rfl | rfl
  · exact d.c
  · exact d.e
  · exact d.f
  · exact d.i4

theorem law_made {env : Env} {g : Heap} {oI : Obj} {I L cS cM st l stg D cur : Addr} {m : Str → Option Value} {oS oM oSt oStg : Obj} {its : List It} {rs : Rw} {v0 : Option Value} {Q : Flow → Shared → Prop} (le : LE env L cS cM) (O : Ok A 9) (Bg : Base w g) (di : Dist cS cM st stg I)
    (S : St g L m (mv4 cS oS cM oM st oSt stg oStg I oI) s.heap) (X : StNow s.heap st l) (hlg : ∃ o, g.get? l = some o) (hoS : oS.data = .cell (some (.ref st))) (hoM : oM.data = .cell v0)
    (mO : m (Str.ofString "others") = some (.ref D)) (hD : g.IsList D (its.map (·.1)).toArray) (hits : ∀ p ∈ its, Oth w g p.1 p.2) (hlen : its.length ≤ 5) (mC : m (Str.ofString "current") = some (.ref cur)) (Dc : Rows w true g cur rs)
    (h : ∀ v oM' oSt' g' h' tk, Le g g' → St g' L m (mv4 cS oS cM oM' st oSt' stg oStg I oI) h' → StNow h' st l → oM'.data = .cell (some v) → Res w g g' cur rs its v → Q .next { s with heap := h', toks := tk }) :
    wpAny (model Pg w) A (exec (stm w.params 5) env) Q E s := by
  have he : stm w.params 5 = .Assign _ _ _ := rfl
  rw [he]
  clear he
  have B := S.base Bg
  have gst : g.get? st = none := (S.mv (st, oSt) (.tail _ (.tail _ (.head _)))).2.2
  have hcS : s.heap.IsCell cS (some (.ref st)) := ⟨oS, (S.mv (cS, oS) (.head _)).1, hoS⟩
  refine wpAny_Assign_Name ?_ rfl
  refine IfExp_ ?_
  refine wpAny_isTrue_Compare1 ?_ (by with_unfolding_all rfl)
  refine eval_next (O.mono (m := 0 + 1) (by omega)) (X.ok Bg S.keep gst) (by decide) (fun Q' q => nK le.ef B (le.g "_law_next") (gName w.params).1 q (by decide)) le.ef (fun Q' q => nC le.ef le.kS le.cS hcS q (by decide)) fun r t₁ h₁ tk₁ r0 r1 X₁ c₁ => ?_
  obtain ⟨o₁, S₁⟩ := St.next (pre := [(cS, oS), (cM, oM)]) (post := [(stg, oStg), (I, oI)]) S c₁ X₁.toNow di.nst
  have X₁' := X₁.toNow
  clear X₁
  refine wpAny_Constant_int ?_
  refine eq_int ?_
  refine wpAny_truthy_bool ?_
  have fin : ∀ v h₂ tk₂, Res w h₁ h₂ cur rs its v → Le h₁ h₂ → wpAny (model Pg w) A (storeName env (Str.ofString "made") v) (fun _ => Q .next) E { s with heap := h₂, toks := tk₂ } := by
    intro v h₂ tk₂ R k₂
    have S₂ := S₁.le k₂
    have hM : h₂.IsCell cM v0 := ⟨oM, (S₂.mv (cM, oM) (.tail _ (.head _))).1, hoM⟩
    refine wpAny_storeName_cell le.ef.kind le.kM le.cM hM fun h₃ hc₃ hs₃ => ?_
    obtain ⟨oM', ho', hd'⟩ := hc₃
    have c₃ : Ch [cM] h₂ h₃ := Ch.of_same hs₃
    have S₃ : St g L m (mv4 cS oS cM oM' st o₁ stg oStg I oI) h₃ := St.upd (pre := [(cS, oS)]) (post := [(st, o₁), (stg, oStg), (I, oI)]) S₂ c₃ ho' di.ncM
    obtain ⟨g', S', kg, fz⟩ := S₃.freeze
    have X₃ : StNow h₃ st l := (X₁'.le k₂).ch c₃ (by simpa using di.d.symm) (by
      obtain ⟨o, ho⟩ := hlg
      intro q
      rw [List.mem_singleton.mp q, (S.mv (cM, oM) (.tail _ (.head _))).2.2] at ho; cases ho)
    refine h v oM' o₁ g' h₃ _ kg S' X₃ hd' ?_
    refine R.imp id fun R => R.imp id fun ⟨mm, a, e, gn, kn, on, Rn⟩ => ⟨mm, a, e, gn, fun b o e => ?_, fun b x q => ?_, Rn⟩
    · have alive : ∀ b' o', h₁.get? b' = some o' → b' ≠ b := fun b' o' q z => by
        rw [z] at q; rw [on _ _ q] at e; cases e
      have e2 := kn _ _ e
      have nM : b ≠ cM := (alive _ _ (S₁.mv (cM, oM) (.tail _ (.head _))).1).symm
      refine fz b o (c₃ _ _ e2 (by simpa using nM)) ?_ ?_
      · obtain ⟨o, _, _, ho, _⟩ := S₁.ns; exact (alive _ _ ho).symm
      · intro p hp
        rcases List.mem_cons.mp hp with rfl | hp
        · exact alive _ _ (S₁.mv (cS, oS) (.head _)).1
        rcases List.mem_cons.mp hp with rfl | hp
        · exact nM.symm
        rcases List.mem_cons.mp hp with rfl | hp
        · exact alive _ _ (S₁.mv (st, o₁) (.tail _ (.tail _ (.head _)))).1
        rcases List.mem_cons.mp hp with rfl | hp
        · exact alive _ _ (S₁.mv (stg, oStg) (.tail _ (.tail _ (.tail _ (.head _))))).1
        rcases List.mem_cons.mp hp with rfl | hp
        · exact alive _ _ (S₁.mv (I, oI) (.tail _ (.tail _ (.tail _ (.tail _ (.head _)))))).1
        · cases hp
    · exact on _ _ (S₁.keep _ _ q)
  have hD₁ : h₁.IsList D (its.map (·.1)).toArray := let ⟨o, e, r⟩ := hD; ⟨o, S₁.keep _ _ e, r⟩
  have hi₁ : ∀ p ∈ its, Oth w h₁ p.1 p.2 := fun p hp => (hits p hp).keeps S₁.keep
  cases (r == 0) with
  | true =>
    rw [if_pos rfl]
    refine eval_join (n := 0) (s := { s with heap := h₁, toks := tk₁ + 1 }) (attr_merge w.params) (ty107 w.params) (fi107 w.params) (fun {s R} B D l h => merge_spec (n := 7) O B D l hlen h) le.ef S₁ (le.l "current") mC (le.l "others") mO (by decide) (by decide) (S₁.base Bg) (Dc.keeps S₁.keep) hD₁ hi₁ hlen fun v h₂ tk₂ R k₂ => ?_
    exact fin v h₂ tk₂ R k₂
  | false =>
    rw [if_neg (by decide)]
    refine eval_join (n := 0) (s := { s with heap := h₁, toks := tk₁ + 1 }) (attr_union w.params) (ty100 w.params) (fi100 w.params) (fun {s R} B D l h => union_spec (n := 7) O B D l hlen h) le.ef S₁ (le.l "current") mC (le.l "others") mO (by decide) (by decide) (S₁.base Bg) (Dc.keeps S₁.keep) hD₁ hi₁ hlen fun v h₂ tk₂ R k₂ => ?_
    exact fin v h₂ tk₂ R k₂

/-- the first question -/
theorem law_isshown {env : Env} {g : Heap} {L cS cM a du : Addr} {m : Str → Option Value} {mv : List (Addr × Obj)} {oM : Obj} {rs : Rw} {Q : Flow → Shared → Prop} (le : LE env L cS cM) (O : Ok A 9) (Bg : Base w g) (S : St g L m mv s.heap)
    (hcM : (cM, oM) ∈ mv) (hoM : oM.data = .cell (some (.ref a))) (mD : m (Str.ofString "due") = some (.ref du)) (Da : Rows w true g a rs) (Dd : Rows w false g du rs)
    (h : ∀ h' tk, St g L m mv h' → Le s.heap h' → Q .next { s with heap := h', toks := tk }) : wpAny (model Pg w) A (exec (stm w.params 6) env) Q E s := by
  have he : stm w.params 6 = .If _ _ _ _ := rfl
  rw [he]
  clear he
  have B := S.base Bg
  have cell : s.heap.IsCell cM (some (.ref a)) := ⟨oM, (S.mv _ hcM).1, hoM⟩
  obtain ⟨ea, epa, Da', _⟩ := id Da
  refine wpAny_If (isTrue_or (isTrue_not (isTrue_plain ?_)))
  refine Call_Name2 (nB le.ef B (le.g "isinstance") (notMine_of "isinstance" (by decide)) boots.2.2.2.2.1 (by decide) (cwB2 ?_)) rfl
  refine nC le.ef le.kM le.cM cell ?_ (by decide)
  refine nK le.ef B (le.g "immutabledict") (gName w.params).2.2.2.2.2.1 ?_ (by decide)
  refine isinst_im B (Da'.keeps S.keep) fun tk₁ => ?_
  refine wpAny_truthy_bool ?_
  show wpAny _ _ (isTrue _ _ _) _ _ _
  refine isTrue_or (isTrue_not (isTrue_plain ?_))
  refine Call_Name2 (nK (s := { s with toks := tk₁ }) le.ef B (le.g "_law_shown") (gName w.params).2.2.2.2.1 (cwK2 (w := w) (keepF_of 182 (by decide)) ?_) (by decide)) rfl
  refine nC (s := { s with toks := tk₁ }) le.ef le.kM le.cM cell ?_ (by decide)
  refine nL (s := { s with toks := tk₁ }) le.ef S (le.l "due") mD ⟨B, wpAny_call ?_⟩
  refine shown_spec (s := { s with toks := tk₁ }) (n := 6) O B (Da.keeps S.keep) (Dd.keeps S.keep) fun h₂ tk₂ k₂ => ?_
  refine wpAny_truthy_bool ?_
  show wpAny _ _ (isTrue _ _ _) _ _ _
  refine isTrue_or_nil ?_
  show wpAny _ _ (execs _ _) _ _ _
  refine wpAny_execs_nil ?_
  exact h _ _ (S.le k₂) k₂
end
end Mine

set_option Elab.async false
set_option maxRecDepth 100000
set_option maxHeartbeats 8000000
set_option linter.unusedVariables false
open PySem PySem.W PyProof.Rows PySem.Calls
namespace Mine
local macro_rules | `(tactic| walk_at "m_s") => `(tactic| first
  | with_reducible refine wpAny_execs_cons ?_
  | with_reducible refine wpAny_execs_nil ?_
  | with_reducible refine wpAny_If ?_
  | with_reducible refine wpAny_Return_some ?_
  | ((with_reducible refine wpAny_Assign_Name ?_ ?hs); (case hs => with_unfolding_all rfl))
  | ((with_reducible refine wpAny_Assign_Subscript ?_ ?hs); (case hs => with_unfolding_all rfl))
  | with_reducible refine wpAny_BinOp ?_
  | ((with_reducible refine wpAny_Compare1 ?_ ?hm); (case hm => with_unfolding_all rfl))
  | ((with_reducible refine wpAny_isTrue_Compare1 ?_ ?hm); (case hm => with_unfolding_all rfl))
  | with_reducible refine wpAny_Constant_int ?_
  | with_reducible refine Constant_str ?_
  | with_reducible refine Constant_bool ?_
  | with_reducible refine Constant_none ?_
  | with_reducible refine Subscript_ ?_
  | with_reducible refine wpAny_truthy_bool ?_
  | ((with_reducible refine' nL (by assumption) (by assumption) (by assumption) ?hv ?_ ?hd); (case hd => decide); (case hv => first | assumption | with_unfolding_all rfl)))

theorem swapped2 {env : Env} {x y a b : Str} {p1 p2 p3 p4 tp vp : Pos} {k1 k2 : Nat} (hb : env.blockKind = .function) (hx : env.kindOf x = some .local) (hy : env.kindOf y = some .local) (hl : (p2.line == p1.line) = true) (hne : (y == x) = false) (ha : a ≠ Str.ofString "__debug__") :
    swappedStores [.Tuple [.Name x p1, .Name y p2] k1 tp] (.Tuple [.Name a p3, .Name b p4] k2 vp) env = pure (some [x, y]) := by
  have e1 : (env.kindOf x == some .local && (Expr.Name x p1).pos.line == (Expr.Name x p1).pos.line) = true := by rw [hx]; simp
  have e2 : (env.kindOf y == some .local && p2.line == p1.line) = true := by rw [hy, hl]; rfl
  unfold swappedStores
  have hn : [Expr.Name x p1, .Name y p2].filterMap (fun | .Name id pos => (if (env.kindOf id == some NameKind.local && pos.line == p1.line) = true then some id else none) | _ => none) = [x, y] := by
    have e1' : (env.kindOf x == some .local && p1.line == p1.line) = true := by rw [hx]; simp
    simp only [List.filterMap_cons, List.filterMap_nil, e1', e2, if_true]
  have hd : [x, y].eraseDups = [x, y] := by
    simp [List.eraseDups_cons, hne]
  show (if _ then _ else _) = _
  rw [hb]
  rw [if_neg (by simp; try decide)]
  show (if _ then _ else _) = _
  rw [if_neg (by simp; try decide)]
  show (let names := ([Expr.Name x p1, .Name y p2].filterMap (fun | .Name id pos => (if (env.kindOf id == some NameKind.local && pos.line == p1.line) = true then some id else none) | _ => none)); (if (names.length != 2 || names.eraseDups.length != names.length) = true then _ else _ : Sem (Option (List Str)))) = _
  rw [hn]
  dsimp only
  rw [hd]
  rw [if_neg (by simp)]
  show (if _ then _ else _) = _
  rw [if_neg (by simp [foldedForSure])]
  show (if _ then _ else _) = _
  rw [if_neg (by simp [constantsAlone, ha])]
  show pure (some ([Expr.Name x p1, .Name y p2].filterMap (fun | .Name id pos => (if (env.kindOf id == some NameKind.local && pos.line == p1.line) = true then some id else none) | _ => none))) = _
  rw [hn]

section
variable {w : World} {A : Around} {E : Value → Shared → Prop} {s : Shared}
theorem mCall1T {prog : Program} {env : Env} {x name : Str} {p p3 apos pos : Pos} {k : Nat} {elts : List Expr} {Q : Value → Shared → Prop} (hline : (apos.endLine == pos.line) = true)
    (h : ∀ pl, wpAny (model prog w) A (eval (.Name x p) env) (fun ov s₁ => wpAny (model prog w) A (getMethod ov name pl) (fun fx s₂ => wpAny (model prog w) A (callWith pos fx.1 fx.2 [(false, eval (.Tuple elts k p3) env)] []) Q E s₂) E s₁) E s) :
    wpAny (model prog w) A (eval (.Call (.Attribute (.Name x p) name apos) [.Tuple elts k p3] [] pos) env) Q E s := by
  rw [arm_eval_Call]
  refine wpAny_bind (m := attributeBase (.Name x p) name env (eval (.Name x p) env)) ?_
  show wpAny _ _ (eval (.Name x p) env) _ _ _
  refine wpAny_mono (h (do return (← importBound (.Name x p) env).getD true)) (fun ov s₁ h₁ => wpAny_bind (wpAny_standAt ?_)) fun _ _ e => e
  unfold methodCall
  refine wpAny_bind (wpAny_holding ?_)
  show wpAny _ _ (getMethod ov name _) _ _ _
  refine wpAny_mono h₁ (fun fx s₂ h₂ => ?_) fun _ _ e => e
  unfold methodCallPos
  rw [hline, Bool.or_true, if_pos rfl]
  exact wpAny_bind (wpAny_pure h₂)

theorem paired_len {α β : Type} {F : α → β → Prop} : ∀ {l₁ : List α} {l₂ : List β}, Paired F l₁ l₂ → l₁.length = l₂.length
  | _, _, .nil => rfl
  | _, _, .cons _ t => by simp [paired_len t]

abbrev LObj (items : Array Value) (o : Obj) : Prop := ∃ n, o = { cls := .type "list", data := .seq items n }

end
end Mine

set_option Elab.async false
set_option maxRecDepth 100000
set_option maxHeartbeats 8000000
set_option linter.unusedVariables false
open PySem PySem.W PyProof.Rows PySem.Calls
namespace Mine
local macro_rules | `(tactic| walk_at "m_s") => `(tactic| first
  | with_reducible refine wpAny_execs_cons ?_
  | with_reducible refine wpAny_execs_nil ?_
  | with_reducible refine wpAny_If ?_
  | with_reducible refine wpAny_Return_some ?_
  | ((with_reducible refine wpAny_Assign_Name ?_ ?hs); (case hs => with_unfolding_all rfl))
  | ((with_reducible refine wpAny_Assign_Subscript ?_ ?hs); (case hs => with_unfolding_all rfl))
  | with_reducible refine wpAny_BinOp ?_
  | ((with_reducible refine wpAny_Compare1 ?_ ?hm); (case hm => with_unfolding_all rfl))
  | ((with_reducible refine wpAny_isTrue_Compare1 ?_ ?hm); (case hm => with_unfolding_all rfl))
  | with_reducible refine wpAny_Constant_int ?_
  | with_reducible refine Constant_str ?_
  | with_reducible refine Constant_bool ?_
  | with_reducible refine Constant_none ?_
  | with_reducible refine Subscript_ ?_
  | with_reducible refine wpAny_truthy_bool ?_
  | ((with_reducible refine' nL (by assumption) (by assumption) (by assumption) ?hv ?_ ?hd); (case hd => decide); (case hv => first | assumption | with_unfolding_all rfl)))

section
variable {w : World} {A : Around} {E : Value → Shared → Prop} {s : Shared}
/-- [dict(one) for one in others if one is not None] != plain -/
theorem law_again {env : Env} {g : Heap} {L cS cM D Pa : Addr} {m : Str → Option Value} {mv : List (Addr × Obj)} {its : List It} {pv : List Value} {Q : Flow → Shared → Prop} (le : LE env L cS cM) (O : Ok A 9) (Bg : Base w g) (S : St g L m mv s.heap)
    (mO : m (Str.ofString "others") = some (.ref D)) (hD : g.IsList D (its.map (·.1)).toArray) (hits : ∀ p ∈ its, Oth w g p.1 p.2) (hlen : its.length ≤ 5) (mP : m (Str.ofString "plain") = some (.ref Pa)) (hP : g.IsList Pa pv.toArray) (hR : Paired (PlainAt w g) pv (plains its))
    (h : ∀ h' tk, St g L m mv h' → Le s.heap h' → Q .next { s with heap := h', toks := tk }) : wpAny (model Pg w) A (exec (stm w.params 8) env) Q E s := by
  have he : stm w.params 8 = .If _ _ _ _ := rfl
  rw [he]
  clear he
  refine wpAny_If (wpAny_isTrue_Compare1 ?_ (by with_unfolding_all rfl))
  refine list_comp_val rfl (by decide +kernel) rfl (by decide +kernel) O.handled S hD (by simp; omega) (plains_turn le.ef Bg hits rfl rfl rfl) (fun Q' E' q => nL le.ef S (le.l "others") mO q) fun D' g' h' tk ys k S' hp R kk _ => ?_
  have R' : Paired (PlainAt w g') ys (plains its) := by simpa using R
  have hu := O.units
  refine nL (s := { s with heap := h', toks := tk }) le.ef S' (le.l "plain") mP ?_
  have l1 := paired_len R'
  have l2 := paired_len hR
  obtain ⟨oD', hoD', rD'⟩ := list_of_plain hp
  obtain ⟨oP, hoP, rP⟩ := hP
  refine ne_lists (s := { s with heap := h', toks := tk }) ⟨_, S'.keep _ _ hoD', rD'⟩ ⟨_, S'.keep _ _ (k _ _ hoP), rP⟩ (by simp; omega) (by omega) (fun E Q j h1 h2 q => ?_) ?_
  · obtain ⟨r1, a1, a, e1, Ra⟩ := paired_get R' (i := j) (x := ys.toArray[j]) (by simp only [List.size_toArray] at h1; simp [h1])
    obtain ⟨r2, a2, b, e2, Rb⟩ := paired_get hR (i := j) (x := pv.toArray[j]) (by simp only [List.size_toArray] at h2; simp [h2])
    rw [a1] at a2
    injection a2 with a2
    subst a2
    rw [e1, e2]
    exact eqBool_dicts (Ra.keeps S'.keep) ((Rb.keeps k).keeps S'.keep) (by show A.units + 1 < 5000; omega) q
  refine wpAny_truthy_bool ?_
  show wpAny _ _ (execs _ _) _ _ _
  refine wpAny_execs_nil ?_
  exact h _ _ (S'.lower k) kk

end
end Mine

set_option Elab.async false
set_option maxRecDepth 100000
set_option maxHeartbeats 8000000
set_option linter.unusedVariables false
open PySem PySem.W PyProof.Rows PySem.Calls
namespace Mine
local macro_rules | `(tactic| walk_at "m_s") => `(tactic| first
  | with_reducible refine wpAny_execs_cons ?_
  | with_reducible refine wpAny_execs_nil ?_
  | with_reducible refine wpAny_If ?_
  | with_reducible refine wpAny_Return_some ?_
  | ((with_reducible refine wpAny_Assign_Name ?_ ?hs); (case hs => with_unfolding_all rfl))
  | ((with_reducible refine wpAny_Assign_Subscript ?_ ?hs); (case hs => with_unfolding_all rfl))
  | with_reducible refine wpAny_BinOp ?_
  | ((with_reducible refine wpAny_Compare1 ?_ ?hm); (case hm => with_unfolding_all rfl))
  | ((with_reducible refine wpAny_isTrue_Compare1 ?_ ?hm); (case hm => with_unfolding_all rfl))
  | with_reducible refine wpAny_Constant_int ?_
  | with_reducible refine Constant_str ?_
  | with_reducible refine Constant_bool ?_
  | with_reducible refine Constant_none ?_
  | with_reducible refine Subscript_ ?_
  | with_reducible refine wpAny_truthy_bool ?_
  | ((with_reducible refine' nL (by assumption) (by assumption) (by assumption) ?hv ?_ ?hd); (case hd => decide); (case hv => first | assumption | with_unfolding_all rfl)))

section
variable {w : World} {A : Around} {E : Value → Shared → Prop} {s : Shared}
/-- not _law_refuses(made, _law_next(state, 9)) -/
theorem law_refused {env : Env} {g : Heap} {oI : Obj} {I L cS cM st l stg a : Addr} {m : Str → Option Value} {oS oM oSt oStg : Obj} {rs : Rw} {Q : Flow → Shared → Prop} (le : LE env L cS cM) (O : Ok A 9) (hfr : A.frames = some [env]) (Bg : Base w g) (di : Dist cS cM st stg I)
    (S : St g L m (mv4 cS oS cM oM st oSt stg oStg I oI) s.heap) (X : StNow s.heap st l) (hlg : ∃ o, g.get? l = some o) (hoS : oS.data = .cell (some (.ref st))) (hoM : oM.data = .cell (some (.ref a))) (Da : Rows w true g a rs)
    (h : ∀ oSt' h' tk, St g L m (mv4 cS oS cM oM st oSt' stg oStg I oI) h' → StNow h' st l → Q .next { s with heap := h', toks := tk }) :
    wpAny (model Pg w) A (exec (stm w.params 9) env) Q E s := by
  have he : stm w.params 9 = .If _ _ _ _ := rfl
  rw [he]
  clear he
  have B := S.base Bg
  have gst : g.get? st = none := (S.mv (st, oSt) (.tail _ (.tail _ (.head _)))).2.2
  have hcS : s.heap.IsCell cS (some (.ref st)) := ⟨oS, (S.mv (cS, oS) (.head _)).1, hoS⟩
  have hcM : s.heap.IsCell cM (some (.ref a)) := ⟨oM, (S.mv (cM, oM) (.tail _ (.head _))).1, hoM⟩
  refine wpAny_If (isTrue_not (isTrue_plain ?_))
  refine Call_Name2 (nK le.ef B (le.g "_law_refuses") (gName w.params).2.2.2.1 (cwK2 (w := w) (keepF_of 175 (by decide)) ?_) (by decide)) rfl
  refine nC le.ef le.kM le.cM hcM ?_ (by decide)
  refine eval_next (O.mono (m := 0 + 1) (by omega)) (X.ok Bg S.keep gst) (by decide) (fun Q' q => nK le.ef B (le.g "_law_next") (gName w.params).1 q (by decide)) le.ef (fun Q' q => nC le.ef le.kS le.cS hcS q (by decide)) fun r t₁ h₁ tk₁ r0 r1 X₁ c₁ => ?_
  obtain ⟨o₁, S₁⟩ := St.next (pre := [(cS, oS), (cM, oM)]) (post := [(stg, oStg), (I, oI)]) S c₁ X₁.toNow di.nst
  have X₁' := X₁.toNow
  clear X₁
  refine ⟨S₁.base Bg, wpAny_call ?_⟩
  obtain ⟨base, Sb, kb, fz⟩ := (S₁.sub (mv' := []) (fun p hp => nomatch hp)).freeze
  have F : Fl w A base [env] h₁ := ⟨hfr, Sb.keep, Heap.FunFrames.cons (by rw [le.ef.kind]; decide) le.frame Sb.ns Sb.off trivial, Bg.keeps kb⟩
  refine refuses_spec (s := { s with heap := h₁, toks := tk₁ }) (n := 5) O F (Da.keeps kb) r0 r1 fun h₂ tk₂ k₂ u₂ => ?_
  refine wpAny_truthy_bool ?_
  show wpAny _ _ (execs _ _) _ _ _
  refine wpAny_execs_nil ?_
  have hb : ∀ b o, h₁.get? b = some o → b ≠ L → h₂.get? b = some o := fun b o e n => k₂ _ _ (fz b o e n fun p hp => nomatch hp)
  refine h o₁ h₂ _ ⟨Heap.UpToSlots.ns u₂ S₁.ns, fun b o e => k₂ _ _ (kb _ _ e), S₁.off, fun p hp => ⟨hb _ _ (S₁.mv p hp).1 (S₁.mv p hp).2.1, (S₁.mv p hp).2⟩⟩ (X₁'.ch (T := [L]) (fun b o e n => hb b o e (by simpa using n)) ?_ ?_)
  · have := (S.mv (st, oSt) (.tail _ (.tail _ (.head _)))).2.1; simpa using this
  · obtain ⟨o, ho⟩ := hlg
    intro q
    rw [List.mem_singleton.mp q, S.off] at ho; cases ho

end
end Mine

set_option Elab.async false
set_option maxRecDepth 100000
set_option maxHeartbeats 8000000
set_option linter.unusedVariables false
open PySem PySem.W PyProof.Rows PySem.Calls
namespace Mine
local macro_rules | `(tactic| walk_at "m_s") => `(tactic| first
  | with_reducible refine wpAny_execs_cons ?_
  | with_reducible refine wpAny_execs_nil ?_
  | with_reducible refine wpAny_If ?_
  | with_reducible refine wpAny_Return_some ?_
  | ((with_reducible refine wpAny_Assign_Name ?_ ?hs); (case hs => with_unfolding_all rfl))
  | ((with_reducible refine wpAny_Assign_Subscript ?_ ?hs); (case hs => with_unfolding_all rfl))
  | with_reducible refine wpAny_BinOp ?_
  | ((with_reducible refine wpAny_Compare1 ?_ ?hm); (case hm => with_unfolding_all rfl))
  | ((with_reducible refine wpAny_isTrue_Compare1 ?_ ?hm); (case hm => with_unfolding_all rfl))
  | with_reducible refine wpAny_Constant_int ?_
  | with_reducible refine Constant_str ?_
  | with_reducible refine Constant_bool ?_
  | with_reducible refine Constant_none ?_
  | with_reducible refine Subscript_ ?_
  | with_reducible refine wpAny_truthy_bool ?_
  | ((with_reducible refine' nL (by assumption) (by assumption) (by assumption) ?hv ?_ ?hd); (case hd => decide); (case hv => first | assumption | with_unfolding_all rfl)))

section
variable {w : World} {A : Around} {E : Value → Shared → Prop} {s : Shared}
/-- stages.append((made, due)) -/
theorem law_append {env : Env} {g : Heap} {oI : Obj} {I L cS cM st stg a du : Addr} {m : Str → Option Value} {oS oM oSt oStg : Obj} {items : Array Value} {Q : Flow → Shared → Prop} (le : LE env L cS cM) (Bg : Base w g) (di : Dist cS cM st stg I)
    (S : St g L m (mv4 cS oS cM oM st oSt stg oStg I oI) s.heap) (hoM : oM.data = .cell (some (.ref a))) (mDue : m (Str.ofString "due") = some (.ref du)) (mStg : m (Str.ofString "stages") = some (.ref stg)) (hStg : LObj items oStg) (hsz : items.size ≤ 1000)
    (h : ∀ T oStg' g' h' tk, Le g g' → St g' L m (mv4 cS oS cM oM st oSt stg oStg' I oI) h' → LObj (items.push (.ref T)) oStg' → IsTup g' T #[.ref a, .ref du] → Ch [stg] s.heap h' → Q .next { s with heap := h', toks := tk }) :
    wpAny (model Pg w) A (exec (stm w.params 10) env) Q E s := by
  have he : stm w.params 10 = .Expr _ _ := rfl
  rw [he]
  clear he
  have hcM : s.heap.IsCell cM (some (.ref a)) := ⟨oM, (S.mv (cM, oM) (.tail _ (.head _))).1, hoM⟩
  have hg := (S.mv (stg, oStg) (.tail _ (.tail _ (.tail _ (.head _))))).1
  obtain ⟨n, rfl⟩ := hStg
  refine wpAny_Expr_any (hi := by unfold interactive; rw [le.ef.kind]; rfl) ?_
  refine mCall1T (by rfl) fun pl => ?_
  refine nL le.ef S (le.l "stages") mStg ?_
  refine Calls.getMethod_list_append hg rfl rfl ?_
  refine cwB1 (Tuple_ ?_)
  show wpAny _ _ (spliced [(false, _), (false, _)]) _ _ _
  refine spliced_cons (nC le.ef le.kM le.cM hcM (spliced_cons (nL le.ef S (le.l "due") mDue (spliced_nil ?_))) (by decide))
  refine wpAny_newTuple ?_ (by rw [sizeLine_eq]; simp)
  have k₁ := Le.push s.heap { cls := .type "tuple", data := .seq [Value.ref a, Value.ref du].toArray }
  have hT : IsTup (s.heap.push { cls := .type "tuple", data := .seq [Value.ref a, Value.ref du].toArray }) s.heap.objs.size #[.ref a, .ref du] := ⟨_, Heap.get?_push_size _ rfl, rfl, _, rfl⟩
  have fr : s.heap.get? s.heap.objs.size = none := get_none_ge (Nat.le_refl _)
  generalize s.heap.push { cls := .type "tuple", data := .seq [Value.ref a, Value.ref du].toArray } = h₁ at *
  generalize s.heap.objs.size = T at *
  have S₁ := S.le k₁
  refine wpAny_list_append_plain (s := { s with heap := h₁ }) ⟨n, k₁ _ _ hg⟩ (fun h₂ p₂ sb₂ => ?_) (by rw [sizeLine_eq]; omega)
  obtain ⟨n₂, ho₂⟩ := p₂
  have c₂ : Ch [stg] h₁ h₂ := Ch.of_same sb₂
  have S₂ := St.upd (pre := [(cS, oS), (cM, oM), (st, oSt)]) (post := [(I, oI)]) S₁ c₂ ho₂ di.nstg
  obtain ⟨g', S', kg, fz⟩ := S₂.freeze
  obtain ⟨oT, hoT, rT⟩ := hT
  have nT : ∀ b o, s.heap.get? b = some o → b ≠ T := fun b o e q => by rw [q, fr] at e; cases e
  refine h T _ g' h₂ _ kg S' ⟨n₂, rfl⟩ ⟨oT, fz _ _ (c₂ _ _ hoT (by simpa using (nT _ _ hg).symm)) ?_ ?_, rT⟩ (fun b o e n => c₂ _ _ (k₁ _ _ e) n)
  · obtain ⟨o, _, _, ho, _⟩ := S.ns; exact (nT _ _ ho).symm
  · intro p hp
    rcases List.mem_cons.mp hp with rfl | hp
    · exact nT _ _ (S.mv (cS, oS) (.head _)).1
    rcases List.mem_cons.mp hp with rfl | hp
    · exact nT _ _ (S.mv (cM, oM) (.tail _ (.head _))).1
    rcases List.mem_cons.mp hp with rfl | hp
    · exact nT _ _ (S.mv (st, oSt) (.tail _ (.tail _ (.head _)))).1
    rcases List.mem_cons.mp hp with rfl | hp
    · exact nT _ _ hg
    rcases List.mem_cons.mp hp with rfl | hp
    · exact nT _ _ (S.mv (I, oI) (.tail _ (.tail _ (.tail _ (.tail _ (.head _)))))).1
    · cases hp

end
end Mine

set_option Elab.async false
set_option maxRecDepth 100000
set_option maxHeartbeats 8000000
set_option linter.unusedVariables false
open PySem PySem.W PyProof.Rows PySem.Calls
namespace Mine
local macro_rules | `(tactic| walk_at "m_s") => `(tactic| first
  | with_reducible refine wpAny_execs_cons ?_
  | with_reducible refine wpAny_execs_nil ?_
  | with_reducible refine wpAny_If ?_
  | with_reducible refine wpAny_Return_some ?_
  | ((with_reducible refine wpAny_Assign_Name ?_ ?hs); (case hs => with_unfolding_all rfl))
  | ((with_reducible refine wpAny_Assign_Subscript ?_ ?hs); (case hs => with_unfolding_all rfl))
  | with_reducible refine wpAny_BinOp ?_
  | ((with_reducible refine wpAny_Compare1 ?_ ?hm); (case hm => with_unfolding_all rfl))
  | ((with_reducible refine wpAny_isTrue_Compare1 ?_ ?hm); (case hm => with_unfolding_all rfl))
  | with_reducible refine wpAny_Constant_int ?_
  | with_reducible refine Constant_str ?_
  | with_reducible refine Constant_bool ?_
  | with_reducible refine Constant_none ?_
  | with_reducible refine Subscript_ ?_
  | with_reducible refine wpAny_truthy_bool ?_
  | ((with_reducible refine' nL (by assumption) (by assumption) (by assumption) ?hv ?_ ?hd); (case hd => decide); (case hv => first | assumption | with_unfolding_all rfl)))

section
variable {w : World} {A : Around} {E : Value → Shared → Prop} {s : Shared}
/-- current, rows = (made, due) -/
theorem law_pair {env : Env} {g : Heap} {L cS cM a du : Addr} {m : Str → Option Value} {mv : List (Addr × Obj)} {oM : Obj} {Q : Flow → Shared → Prop} (le : LE env L cS cM) (hh : A.handled = none) (S : St g L m mv s.heap)
    (hcM : (cM, oM) ∈ mv) (hoM : oM.data = .cell (some (.ref a))) (mDue : m (Str.ofString "due") = some (.ref du))
    (h : ∀ h' tk, St g L (updN (updN m (Str.ofString "rows") (.ref du)) (Str.ofString "current") (.ref a)) mv h' → Ch [L] s.heap h' → Q .next { s with heap := h', toks := tk }) :
    wpAny (model Pg w) A (exec (stm w.params 11) env) Q E s := by
  have he : stm w.params 11 = .Assign _ _ _ := rfl
  rw [he]
  clear he
  have cell : s.heap.IsCell cM (some (.ref a)) := ⟨oM, (S.mv _ hcM).1, hoM⟩
  refine Assign_Tuple_swapped (names := [Str.ofString "current", Str.ofString "rows"]) (Tuple_ ?_) rfl ?_
  · show wpAny _ _ (spliced [(false, _), (false, _)]) _ _ _
    refine spliced_cons (nC le.ef le.kM le.cM cell (spliced_cons (nL le.ef S (le.l "due") mDue (spliced_nil ?_))) (by decide))
    refine wpAny_newTuple ?_ (by rw [sizeLine_eq]; simp)
    have k₁ := Le.push s.heap { cls := .type "tuple", data := .seq [Value.ref a, Value.ref du].toArray }
    have hT : IsTup (s.heap.push { cls := .type "tuple", data := .seq [Value.ref a, Value.ref du].toArray }) s.heap.objs.size #[.ref a, .ref du] := ⟨_, Heap.get?_push_size _ rfl, rfl, _, rfl⟩
    generalize s.heap.push { cls := .type "tuple", data := .seq [Value.ref a, Value.ref du].toArray } = h₁ at *
    generalize s.heap.objs.size = T at *
    show wpAny _ _ (unpackItems (.ref T) 2 none) _ _ _
    refine unpackItems_tuple (items := #[.ref a, .ref du]) (s := { s with heap := h₁ }) hh hT fun h₂ e₂ => ?_
    have k₂ : Le h₁ h₂ := fun b o e => e₂ b o (Nat.ne_of_lt (Heap.lt_size e)) e
    show wpAny _ _ (assignInOrder [bindName env _, bindName env _] [_, _]) _ _ _
    refine assignInOrder_cons (bindName_ (sL' (s := { s with heap := h₂ }) le.ef ((S.le k₁).le k₂) (le.l "rows") fun h₃ S₃ c₃ => ?_))
    refine assignInOrder_cons (bindName_ (sL' le.ef S₃ (le.l "current") fun h₄ S₄ c₄ => ?_))
    exact assignInOrder_nil (h h₄ _ S₄ fun b o e n => c₄ _ _ (c₃ _ _ (k₂ _ _ (k₁ _ _ e)) n) n)
  · exact swapped2 (by unfold Env.blockKind; rw [le.ef.kind]; rfl) (le.l "current") (le.l "rows") rfl (by decide) (by decide)
end
end Mine

set_option Elab.async false
set_option maxRecDepth 100000
set_option maxHeartbeats 8000000
set_option linter.unusedVariables false
open PySem PySem.W PyProof.Rows PySem.Calls
namespace Mine

local macro_rules | `(tactic| walk_at "m_s") => `(tactic| first
  | with_reducible refine wpAny_execs_cons ?_
  | with_reducible refine wpAny_execs_nil ?_
  | with_reducible refine wpAny_If ?_
  | with_reducible refine wpAny_Return_some ?_
  | ((with_reducible refine wpAny_Assign_Name ?_ ?hs); (case hs => with_unfolding_all rfl))
  | ((with_reducible refine wpAny_Assign_Subscript ?_ ?hs); (case hs => with_unfolding_all rfl))
  | with_reducible refine wpAny_BinOp ?_
  | ((with_reducible refine wpAny_Compare1 ?_ ?hm); (case hm => with_unfolding_all rfl))
  | ((with_reducible refine wpAny_isTrue_Compare1 ?_ ?hm); (case hm => with_unfolding_all rfl))
  | with_reducible refine wpAny_Constant_int ?_
  | with_reducible refine Constant_str ?_
  | with_reducible refine Constant_bool ?_
  | with_reducible refine Constant_none ?_
  | with_reducible refine Subscript_ ?_
  | with_reducible refine wpAny_truthy_bool ?_
  | ((with_reducible refine' nL (by assumption) (by assumption) (by assumption) ?hv ?_ ?hd); (case hd => decide); (case hv => first | assumption | with_unfolding_all rfl)))

section
variable {w : World} {A : Around} {E : Value → Shared → Prop} {s : Shared}

def StageAt (w : World) (g : Heap) (v : Value) : Prop := ∃ T a b rs, v = .ref T ∧ IsTup g T #[.ref a, .ref b] ∧ Rows w true g a rs ∧ Rows w false g b rs
theorem StageAt.keeps {w : World} {g g' : Heap} {v : Value} (x : StageAt w g v) (k : Le g g') : StageAt w g' v := let ⟨T, a, b, rs, e, t, r1, r2⟩ := x; ⟨T, a, b, rs, e, t.keeps k, r1.keeps k, r2.keeps k⟩
theorem StNow.by {h h' : Heap} {st l : Addr} {oSt : Obj} {g : Heap} (x : StNow h st l) (e1 : h.get? st = some oSt) (e2 : h'.get? st = some oSt) (hl : ∃ o, g.get? l = some o) (k : Le g h) (k' : Le g h') : StNow h' st l := by
  obtain ⟨⟨i, y, t₁, t₂, ⟨o, ho, r⟩, q⟩, ⟨vs, ns, ⟨o', ho', r'⟩, q'⟩, hne⟩ := x
  obtain ⟨ol, hol⟩ := hl
  have a := k _ _ hol
  have b := k' _ _ hol
  rw [ho] at e1; cases e1
  rw [a] at ho'; cases ho'
  exact ⟨⟨i, y, t₁, t₂, ⟨_, e2, r⟩, q⟩, ⟨vs, ns, ⟨_, b, r'⟩, q'⟩, hne⟩

/-- what stands at the head of a turn, beside the frame -/
structure LF (w : World) (g : Heap) (m : Str → Option Value) (st l stg : Addr) (oS oM oStg : Obj) (h : Heap) (items : Array Value) (n : Nat) : Prop where
  x : StNow h st l
  hoS : oS.data = .cell (some (.ref st))
  hoM : ∃ v0, oM.data = .cell v0
  cr : ∃ cur rw' rs, m (Str.ofString "current") = some (.ref cur) ∧ m (Str.ofString "rows") = some (.ref rw') ∧ Rows w true g cur rs ∧ Rows w false g rw' rs
  mS : m (Str.ofString "stages") = some (.ref stg)
  lo : LObj items oStg
  sz : items.size = n
  it : ∀ v ∈ items.toList, StageAt w g v

theorem law_turn {env : Env} {g : Heap} {oI : Obj} {I L cS cM st l stg : Addr} {m : Str → Option Value} {oS oM oSt oStg : Obj} {items : Array Value} {n : Nat} {Q : Flow → Shared → Prop} (le : LE env L cS cM) (O : Ok A 9) (hfr : A.frames = some [env]) (Bg : Base w g) (di : Dist cS cM st stg I)
    (S : St g L m (mv4 cS oS cM oM st oSt stg oStg I oI) s.heap) (F : LF w g m st l stg oS oM oStg s.heap items n) (hlg : ∃ o, g.get? l = some o) (hn : n ≤ 100)
    (h : ∀ g' m' oM' oSt' oStg' items' h' tk, Le g g' → St g' L m' (mv4 cS oS cM oM' st oSt' stg oStg' I oI) h' → LF w g' m' st l stg oS oM' oStg' h' items' (n + 1) → Q .next { s with heap := h', toks := tk }) :
    wpAny (model Pg w) A (execs (loopB w.params) env) Q E s := by
  have hb : loopB w.params = [stm w.params 0, stm w.params 1, stm w.params 2, stm w.params 3, stm w.params 4, stm w.params 5, stm w.params 6, stm w.params 7, stm w.params 8, stm w.params 9, stm w.params 10, stm w.params 11] := rfl
  rw [hb]
  clear hb
  obtain ⟨X, hoS, ⟨v0, hoM⟩, ⟨cur, rw', rs, mC, mR, Dc, Dr⟩, mS, lo, sz, it⟩ := F
  have hcS : s.heap.IsCell cS (some (.ref st)) := ⟨oS, (S.mv (cS, oS) (.head _)).1, hoS⟩
  refine wpAny_execs_cons (law_others (pre := [(cS, oS), (cM, oM)]) (post := [(stg, oStg), (I, oI)]) le O Bg S hcS di.b (S.mv (cS, oS) (.head _)).2.1 X hlg di.nst fun D its g₁ h₁ tk₁ oSt₁ k₁ S₁ X₁ _ pD hits hlen => ?_)
  have B₁ := Bg.keeps k₁
  have lD := list_of_plain pD
  have mt : ∀ {oM oSt}, (st, oSt) ∈ mv4 cS oS cM oM st oSt stg oStg I oI := .tail _ (.tail _ (.head _))
  have hl₁ : ∃ o, g₁.get? l = some o := let ⟨o, e⟩ := hlg; ⟨o, k₁ _ _ e⟩
  refine wpAny_execs_cons (law_plain (s := { s with heap := h₁, toks := tk₁ }) le O.handled B₁ S₁ updN_eq lD hits hlen fun Pa pv g₂ h₂ tk₂ k₂ S₂ pP hP _ => ?_)
  have hits₂ : ∀ p ∈ its, Oth w g₂ p.1 p.2 := fun p hp => (hits p hp).keeps k₂
  have lD₂ : g₂.IsList D (its.map (·.1)).toArray := let ⟨o, e, r⟩ := lD; ⟨o, k₂ _ _ e, r⟩
  refine wpAny_execs_cons (law_filled (s := { s with heap := h₂, toks := tk₂ }) le O.handled (B₁.keeps k₂) S₂ (updN_ne updN_eq) lD₂ hits₂ hlen fun Fa g₃ h₃ tk₃ k₃ S₃ pF _ => ?_)
  have k03 : Le g g₃ := fun b o e => k₃ _ _ (k₂ _ _ (k₁ _ _ e))
  have B₃ := Bg.keeps k03
  refine wpAny_execs_cons (law_due (s := { s with heap := h₃, toks := tk₃ }) le B₃ S₃ (updN_ne (updN_ne (updN_ne mR))) (Dr.keeps k03) fun du es ep h₄ tk₄ S₄ R₄ dsys ndu _ => ?_)
  refine wpAny_execs_cons ?_
  have he4 : stm w.params 4 = .For (.Name (Str.ofString "one") _) (.Name (Str.ofString "plain") _) [.For (.Tuple [.Name (Str.ofString "word") _, .Name (Str.ofString "value") _] _ _) (.Call (.Attribute (.Name (Str.ofString "one") _) (Str.ofString "items") _) [] [] _) [.Assign [.Subscript (.Name (Str.ofString "due") _) (.Name (Str.ofString "word") _) _] (.Name (Str.ofString "value") _) _] [] _] [] _ := rfl
  rw [he4]
  clear he4
  have pl5 : (plains its).length ≤ its.length := List.length_filterMap_le _ _
  have lpv := paired_len hP
  obtain ⟨oP, hoP, rP⟩ := list_of_plain pP
  refine outer_loop (s := { s with heap := h₄, toks := tk₄ }) (pre := []) (post := mv4 cS oS cM oM st oSt₁ stg oStg I oI) le O.handled B₃ S₄ R₄ (updN_ne (updN_ne updN_eq)) ⟨oP, k₃ _ _ hoP, rP⟩ (by omega) (hP.mono fun _ _ x => x.keeps k₃) updN_eq ndu rfl fun m₅ es₅ ep₅ h₅ tk₅ S₅ R₅ ag => ?_
  have S₅' : St g₃ L m₅ (mv4 cS oS cM oM st oSt₁ stg oStg I oI) h₅ := S₅.sub fun p hp => .tail _ hp
  have hdu := S₅.mv (du, plainObj es₅ ep₅) (.head _)
  obtain ⟨g₅, S₆, k₅, fz⟩ := S₅'.freeze
  have Ddu : Rows w false g₅ du (mergeAll rs (plains its)) := ⟨es₅, ep₅, ⟨dsys, none, fz _ _ hdu.1 hdu.2.1 ndu, rfl⟩, R₅⟩
  have k05 : Le g g₅ := fun b o e => k₅ _ _ (k03 _ _ e)
  have k25 : Le g₂ g₅ := fun b o e => k₅ _ _ (k₃ _ _ e)
  have X₅ : StNow h₅ st l := X₁.by (S₁.mv (st, oSt₁) mt).1 (S₆.mv (st, oSt₁) mt).1 hl₁ S₁.keep (fun b o e => S₆.keep _ _ (k25 _ _ (k₂ _ _ e)))
  have hits₅ : ∀ p ∈ its, Oth w g₅ p.1 p.2 := fun p hp => (hits₂ p hp).keeps k25
  have lD₅ : g₅.IsList D (its.map (·.1)).toArray := let ⟨o, e, r⟩ := lD₂; ⟨o, k25 _ _ e, r⟩
  have mC₅ : m₅ (Str.ofString "current") = some (.ref cur) := (ag _ (by decide) (by decide) (by decide)).trans (updN_ne (updN_ne (updN_ne (updN_ne mC))))
  have mR₅ : m₅ (Str.ofString "rows") = some (.ref rw') := (ag _ (by decide) (by decide) (by decide)).trans (updN_ne (updN_ne (updN_ne (updN_ne mR))))
  have mS₅ : m₅ (Str.ofString "stages") = some (.ref stg) := (ag _ (by decide) (by decide) (by decide)).trans (updN_ne (updN_ne (updN_ne (updN_ne mS))))
  have mO₅ : m₅ (Str.ofString "others") = some (.ref D) := (ag _ (by decide) (by decide) (by decide)).trans (updN_ne (updN_ne (updN_ne updN_eq)))
  have mP₅ : m₅ (Str.ofString "plain") = some (.ref Pa) := (ag _ (by decide) (by decide) (by decide)).trans (updN_ne (updN_ne updN_eq))
  have mF₅ : m₅ (Str.ofString "filled") = some (.ref Fa) := (ag _ (by decide) (by decide) (by decide)).trans (updN_ne updN_eq)
  have mDu₅ : m₅ (Str.ofString "due") = some (.ref du) := (ag _ (by decide) (by decide) (by decide)).trans updN_eq
  have hl₅ : ∃ o, g₅.get? l = some o := let ⟨o, e⟩ := hlg; ⟨o, k05 _ _ e⟩
  refine wpAny_execs_cons (law_made (s := { s with heap := h₅, toks := tk₅ }) le O (Bg.keeps k05) di S₆ X₅ hl₅ hoS hoM mO₅ lD₅ hits₅ hlen mC₅ (Dc.keeps k05) fun v oM₇ oSt₇ g₇ h₇ tk₇ k₇ S₇ X₇ hoM₇ R₇ => ?_)
  have k07 : Le g g₇ := fun b o e => k₇ _ _ (k05 _ _ e)
  have k27 : Le g₂ g₇ := fun b o e => k₇ _ _ (k25 _ _ e)
  have B₇ := Bg.keeps k07
  have hits₇ : ∀ p ∈ its, Oth w g₇ p.1 p.2 := fun p hp => (hits₅ p hp).keeps k₇
  obtain ⟨a, rfl, Da⟩ := res_rows R₇ (Dc.keeps k07) hits₇
  have Ddu₇ : Rows w false g₇ du (mergeIts rs its) := by rw [mergeIts_eq]; exact Ddu.keeps k₇
  have mM : ∀ {oSt oStg}, (cM, oM₇) ∈ mv4 cS oS cM oM₇ st oSt stg oStg I oI := .tail _ (.head _)
  refine wpAny_execs_cons (law_isshown (s := { s with heap := h₇, toks := tk₇ }) le O B₇ S₇ mM hoM₇ mDu₅ Da Ddu₇ fun h₈ tk₈ S₈ l₈ => ?_)
  have X₈ := X₇.le l₈
  obtain ⟨oF, hoF, rF⟩ := list_of_plain pF
  refine wpAny_execs_cons (law_check (s := { s with heap := h₈, toks := tk₈ }) (its := its) le (O.mono (by omega)) B₇ S₈ mM hoM₇ mF₅ ⟨oF, k₇ _ _ (k₅ _ _ hoF), rF⟩ hlen mC₅ mR₅ (Dc.keeps k07) (Dr.keeps k07) hits₇ ?_ fun h₉ tk₉ S₉ => ?_)
  · refine R₇.imp id fun R => R.imp id fun ⟨mm, a', e, N⟩ => ⟨mm, a', ?_⟩
    have fr := N.fresh
    obtain ⟨e1, e2, Da', _⟩ := N.rows
    obtain ⟨dd, ho⟩ := Da'.obj
    obtain ⟨c1, c2, Dc', _⟩ := Dc.keeps k05
    obtain ⟨dd', ho'⟩ := Dc'.obj
    have hac : a' ≠ cur := fun q => by rw [q, ho'] at fr; cases fr
    refine ⟨_, e, ho, (by intro q; simp [clsV] at q), hac, fun p hp q => ?_⟩
    rcases hits₅ p hp with ⟨z, _⟩ | ⟨im, x, r, z, _, ex, epx, Dx, _⟩
    · rw [z] at q; cases q
    · rw [z] at q; cases q
      obtain ⟨dx, hox⟩ := Dx.obj
      rw [hox] at fr; cases fr
  have X₉ : StNow h₉ st l := X₈.by (S₈.mv (st, oSt₇) mt).1 (S₉.mv (st, oSt₇) mt).1 (g := g₇) (let ⟨o, e⟩ := hlg; ⟨o, k07 _ _ e⟩) S₈.keep S₉.keep
  refine wpAny_execs_cons (law_again (s := { s with heap := h₉, toks := tk₉ }) le O B₇ S₉ mO₅ (let ⟨o, e, r⟩ := lD₅; ⟨o, k₇ _ _ e, r⟩) hits₇ hlen mP₅ ⟨oP, k27 _ _ hoP, rP⟩ (hP.mono fun _ _ x => x.keeps k27) fun h₁₀ tk₁₀ S₁₀ l₁₀ => ?_)
  refine wpAny_execs_cons (law_refused (s := { s with heap := h₁₀, toks := tk₁₀ }) le O hfr B₇ di S₁₀ (X₉.le l₁₀) (let ⟨o, e⟩ := hlg; ⟨o, k07 _ _ e⟩) hoS hoM₇ Da fun oSt₁₁ h₁₁ tk₁₁ S₁₁ X₁₁ => ?_)
  refine wpAny_execs_cons (law_append (s := { s with heap := h₁₁, toks := tk₁₁ }) le B₇ di S₁₁ hoM₇ mDu₅ mS₅ lo (by omega) fun T oStg' g₁₂ h₁₂ tk₁₂ k₁₂ S₁₂ lo' hT c₁₂ => ?_)
  have X₁₂ : StNow h₁₂ st l := X₁₁.by (S₁₁.mv (st, oSt₁₁) mt).1 (S₁₂.mv (st, oSt₁₁) (.tail _ (.tail _ (.head _)))).1 (g := g₇) (let ⟨o, e⟩ := hlg; ⟨o, k07 _ _ e⟩) S₁₁.keep (fun b o e => S₁₂.keep _ _ (k₁₂ _ _ e))
  refine wpAny_execs_cons (law_pair (s := { s with heap := h₁₂, toks := tk₁₂ }) le O.handled S₁₂ mM hoM₇ mDu₅ fun h₁₃ tk₁₃ S₁₃ c₁₃ => wpAny_execs_nil ?_)
  have k012 : Le g g₁₂ := fun b o e => k₁₂ _ _ (k07 _ _ e)
  refine h g₁₂ _ oM₇ oSt₁₁ oStg' (items.push (.ref T)) h₁₃ _ k012 S₁₃ ⟨?_, hoS, ⟨_, hoM₇⟩, ⟨a, du, mergeIts rs its, updN_eq, updN_ne updN_eq, Da.keeps k₁₂, Ddu₇.keeps k₁₂⟩, updN_ne (updN_ne mS₅), lo', by simp [sz], fun v hv => ?_⟩
  · exact X₁₂.by (S₁₂.mv (st, oSt₁₁) (.tail _ (.tail _ (.head _)))).1 (S₁₃.mv (st, oSt₁₁) (.tail _ (.tail _ (.head _)))).1 (g := g) hlg (fun b o e => S₁₂.keep _ _ (k012 _ _ e)) (fun b o e => S₁₃.keep _ _ (k012 _ _ e))
  · simp only [Array.toList_push, List.mem_append, List.mem_singleton] at hv
    rcases hv with hv | rfl
    · exact (it v hv).keeps k012
    · exact ⟨T, a, du, _, rfl, hT, Da.keeps k₁₂, Ddu₇.keeps k₁₂⟩
end
end Mine

set_option Elab.async false
set_option maxRecDepth 100000
set_option maxHeartbeats 8000000
set_option linter.unusedVariables false
open PySem PySem.W PyProof.Rows PySem.Calls
namespace Mine

local macro_rules | `(tactic| walk_at "m_s") => `(tactic| first
  | with_reducible refine wpAny_execs_cons ?_
  | with_reducible refine wpAny_execs_nil ?_
  | with_reducible refine wpAny_If ?_
  | with_reducible refine wpAny_Return_some ?_
  | ((with_reducible refine wpAny_Assign_Name ?_ ?hs); (case hs => with_unfolding_all rfl))
  | ((with_reducible refine wpAny_Assign_Subscript ?_ ?hs); (case hs => with_unfolding_all rfl))
  | with_reducible refine wpAny_BinOp ?_
  | ((with_reducible refine wpAny_Compare1 ?_ ?hm); (case hm => with_unfolding_all rfl))
  | ((with_reducible refine wpAny_isTrue_Compare1 ?_ ?hm); (case hm => with_unfolding_all rfl))
  | with_reducible refine wpAny_Constant_int ?_
  | with_reducible refine Constant_str ?_
  | with_reducible refine Constant_bool ?_
  | with_reducible refine Constant_none ?_
  | with_reducible refine Subscript_ ?_
  | with_reducible refine wpAny_truthy_bool ?_
  | ((with_reducible refine' nL (by assumption) (by assumption) (by assumption) ?hv ?_ ?hd); (case hd => decide); (case hv => first | assumption | with_unfolding_all rfl)))

noncomputable def lst (P : Params) (k : Nat) : Stmt := match (lawB P)[k]? with | some s => s | none => .Pass default

structure D4 (cS cM st stg : Addr) : Prop where
  a : cS ≠ cM
  b : cS ≠ st
  c : cS ≠ stg
  d : cM ≠ st
  e : cM ≠ stg
  f : st ≠ stg

section
variable {w : World} {A : Around} {E : Value → Shared → Prop} {s : Shared}

theorem law_loop {env : Env} {g : Heap} {L cS cM st l stg : Addr} {m : Str → Option Value} {oS oM oSt oStg : Obj} {items : Array Value} {Q : Flow → Shared → Prop} (le : LE env L cS cM) (O : Ok A 9) (hfr : A.frames = some [env]) (Bg : Base w g) (d4 : D4 cS cM st stg)
    (S : St g L m [(cS, oS), (cM, oM), (st, oSt), (stg, oStg)] s.heap) (F : LF w g m st l stg oS oM oStg s.heap items 1) (hlg : ∃ o, g.get? l = some o)
    (h : ∀ g' m' oM' oSt' oStg' items' n h' tk, Le g g' → St g' L m' [(cS, oS), (cM, oM'), (st, oSt'), (stg, oStg')] h' → LF w g' m' st l stg oS oM' oStg' h' items' n → n ≤ 20 → Q .next { s with heap := h', toks := tk }) :
    wpAny (model Pg w) A (exec (lst w.params 4) env) Q E s := by
  have he : lst w.params 4 = .For (.Name (Str.ofString "_") _) (.Call (.Name (Str.ofString "range") _) [.BinOp (.Constant (.int 2) _ _) .Add _ _] [] _) (loopB w.params) [] _ := rfl
  rw [he]
  clear he
  have B := S.base Bg
  have gst : g.get? st = none := (S.mv (st, oSt) (.tail _ (.tail _ (.head _)))).2.2
  have hcS : s.heap.IsCell cS (some (.ref st)) := ⟨oS, (S.mv (cS, oS) (.head _)).1, F.hoS⟩
  refine for_walk ?_
  refine range_it le.ef B (le.g "range") ?_
  refine wpAny_BinOp (wpAny_Constant_int ?_)
  refine eval_next (O.mono (m := 0 + 1) (by omega)) (F.x.ok Bg S.keep gst) (by decide) (fun Q' q => nK le.ef B (le.g "_law_next") (gName w.params).1 q (by decide)) le.ef (fun Q' q => nC le.ef le.kS le.cS hcS q (by decide)) fun r t₁ h₁ tk₁ r0 r1 X₁ c₁ => ?_
  have nst : ∀ p ∈ [(cS, oS), (cM, oM)] ++ [(stg, oStg)], p.1 ≠ st := by
    intro p hp
    simp only [List.cons_append, List.nil_append, List.mem_cons, List.not_mem_nil, or_false] at hp
    rcases hp with rfl | rfl | rfl
    · exact d4.b
    · exact d4.d
    · exact d4.f.symm
  obtain ⟨o₁, S₁⟩ := St.next (pre := [(cS, oS), (cM, oM)]) (post := [(stg, oStg)]) S c₁ X₁.toNow nst
  have X₁' := X₁.toNow
  clear X₁
  refine add_int ?_
  refine ⟨2 + r, _, rfl, by omega, by omega, fun h₃ I tk k₃ nI lI hit => ?_⟩
  dsimp only at k₃ nI ⊢
  have S₃ := S₁.le k₃
  have LI : I ≠ L := S₁.ne nI
  have gI : g.get? I = none := S₁.none nI
  have nm := S₁.neMut nI
  have iS : cS ≠ I := nm (cS, oS) (.head _)
  have iM : cM ≠ I := nm (cM, oM) (.tail _ (.head _))
  have it : st ≠ I := nm (st, o₁) (.tail _ (.tail _ (.head _)))
  have ig : stg ≠ I := nm (stg, oStg) (.tail _ (.tail _ (.tail _ (.head _))))
  have il : l ≠ I := fun q => by obtain ⟨o, ho⟩ := hlg; rw [q, gI] at ho; cases ho
  have di : Dist cS cM st stg I := ⟨d4.a, d4.b, d4.c, d4.d, d4.e, d4.f, iS.symm, iM.symm, it.symm, ig.symm⟩
  refine ⟨I, [I], [I], (2 + r).toNat, _, _, fun i h => ∃ g' m' oM' oSt' oStg' items', Le g g' ∧ g'.get? I = none ∧ St g' L m' [(cS, oS), (cM, oM'), (st, oSt'), (stg, oStg')] h ∧ LF w g' m' st l stg oS oM' oStg' h items' (i + 1), rfl,
    ⟨Walks.range O.handled I 0 1 (2 + r).toNat, fun _ => rfl, hit, ⟨g, m, oM, o₁, oStg, items, fun _ _ e => e, gI, S₃, { F with x := X₁'.le k₃ }⟩, ?_, ?_, ?_⟩⟩
  · rintro i h h' ⟨g', m', oM', oSt', oStg', items', k, gI', S', F'⟩ c
    refine ⟨g', m', oM', oSt', oStg', items', k, gI', S'.ch c (by simpa using LI.symm) (by simpa [Off] using gI') ?_, { F' with x := F'.x.ch c (by simpa using it) (by simpa using il) }⟩
    intro p hp
    simp only [List.mem_cons, List.not_mem_nil, or_false] at hp ⊢
    rcases hp with rfl | rfl | rfl | rfl
    · exact iS
    · exact iM
    · exact it
    · exact ig
  · rintro i v h tk E' hi ⟨tv, rfl⟩ ⟨g', m', oM', oSt', oStg', items', k, gI', S', F'⟩ hI
    obtain ⟨oI, hoI⟩ : ∃ o, h.get? I = some o := ⟨_, hI⟩
    have Sx : St g' L m' (mv4 cS oS cM oM' st oSt' stg oStg' I oI) h := by
      refine ⟨S'.ns, S'.keep, S'.off, fun p hp => ?_⟩
      simp only [List.mem_cons, List.not_mem_nil, or_false] at hp
      rcases hp with rfl | rfl | rfl | rfl | rfl
      · exact S'.mv (cS, oS) (.head _)
      · exact S'.mv (cM, oM') (.tail _ (.head _))
      · exact S'.mv (st, oSt') (.tail _ (.tail _ (.head _)))
      · exact S'.mv (stg, oStg') (.tail _ (.tail _ (.tail _ (.head _))))
      · exact ⟨hoI, LI, gI'⟩
    have hlg' : ∃ o, g'.get? l = some o := let ⟨o, e⟩ := hlg; ⟨o, k _ _ e⟩
    refine wpAny_assign_Name (sL' le.ef Sx (le.l "_") fun h₂ S₂ c₂ => ?_)
    obtain ⟨cur, rw', rs, mC, mR, Dc, Dr⟩ := F'.cr
    have F₂ : LF w g' (updN m' (Str.ofString "_") (.int (0 + (i : Int) * 1) tv)) st l stg oS oM' oStg' h₂ items' (i + 1) := { F' with x := F'.x.ch c₂ (by have := (S'.mv (st, oSt') (.tail _ (.tail _ (.head _)))).2.1; simpa using this) (fun q => by obtain ⟨o, ho⟩ := hlg'; rw [List.mem_singleton.mp q, S'.off] at ho; cases ho), cr := ⟨cur, rw', rs, updN_ne mC, updN_ne mR, Dc, Dr⟩, mS := updN_ne F'.mS }
    refine law_turn (s := { s with heap := h₂, toks := tk + 1 }) le O hfr (Bg.keeps k) di S₂ F₂ hlg' (by omega) fun g₄ m₄ oM₄ oSt₄ oStg₄ items₄ h₄ tk₄ k₄ S₄ F₄ => ?_
    refine ⟨h₄, tk₄, rfl, ⟨g₄, m₄, oM₄, oSt₄, oStg₄, items₄, fun b o e => k₄ _ _ (k _ _ e), (S₄.mv (I, oI) (.tail _ (.tail _ (.tail _ (.tail _ (.head _)))))).2.2, S₄.sub fun p hp => ?_, F₄⟩, fun b hb o e => ?_⟩
    · simp only [List.mem_cons, List.not_mem_nil, or_false] at hp ⊢
      rcases hp with rfl | rfl | rfl | rfl <;> simp
    · rw [List.mem_singleton.mp hb] at e ⊢
      rw [hoI] at e; cases e
      exact (S₄.mv (I, oI) (.tail _ (.tail _ (.tail _ (.tail _ (.head _)))))).1
  · rintro hE tk ⟨g', m', oM', oSt', oStg', items', k, gI', S', F'⟩
    exact h g' m' oM' oSt' oStg' items' _ hE tk k S' F' (by omega)
end
end Mine

set_option Elab.async false
set_option maxRecDepth 100000
set_option maxHeartbeats 8000000
set_option linter.unusedVariables false
open PySem PySem.W PyProof.Rows PySem.Calls
namespace Mine

local macro_rules | `(tactic| walk_at "m_s") => `(tactic| first
  | with_reducible refine wpAny_execs_cons ?_
  | with_reducible refine wpAny_execs_nil ?_
  | with_reducible refine wpAny_If ?_
  | with_reducible refine wpAny_Return_some ?_
  | ((with_reducible refine wpAny_Assign_Name ?_ ?hs); (case hs => with_unfolding_all rfl))
  | ((with_reducible refine wpAny_Assign_Subscript ?_ ?hs); (case hs => with_unfolding_all rfl))
  | with_reducible refine wpAny_BinOp ?_
  | ((with_reducible refine wpAny_Compare1 ?_ ?hm); (case hm => with_unfolding_all rfl))
  | ((with_reducible refine wpAny_isTrue_Compare1 ?_ ?hm); (case hm => with_unfolding_all rfl))
  | with_reducible refine wpAny_Constant_int ?_
  | with_reducible refine Constant_str ?_
  | with_reducible refine Constant_bool ?_
  | with_reducible refine Constant_none ?_
  | with_reducible refine Subscript_ ?_
  | with_reducible refine wpAny_truthy_bool ?_
  | ((with_reducible refine' nL (by assumption) (by assumption) (by assumption) ?hv ?_ ?hd); (case hd => decide); (case hv => first | assumption | with_unfolding_all rfl)))

section
variable {prog : Program} {w : World} {A : Around} {E : Value → Shared → Prop} {R : Result → Shared → Prop} {s : Shared}
theorem codeAny_compLoop_testsT {elt target iter : Expr} {ifs : List Expr} {scope : Scope} {pos : Pos} {it acc : Value} {env : Env} (I : Nat → Shared → Prop)
    (turn : ∀ n s, I n s → wpAny (model prog w) A (pyNext it) (fun r s₁ => match r with
      | none => R (.ok .next) s₁
      | some v => wpAny (model prog w) A (letOwnedTupleGo target it v) (fun _ s₁ => wpAny (model prog w) A (assign target env v) (fun _ s₂ =>
          wpAny (model prog w) A (forIn ifs true fun c r => if r = true then do let ok ← isTrue c env (eval c env); pure (ForInStep.yield ok) else pure (ForInStep.yield r)) (fun ok s₃ =>
            if ok = true then wpAny (model prog w) A (eval elt env) (fun x s₄ =>
              wpAny (model prog w) A (call (.builtin "list.append") [acc, x]) (fun _ s₅ => ∃ m, m < n ∧ I m s₅) (notedBy (model prog w) A env fun e s' => R (.error e) s') s₄) (notedBy (model prog w) A env fun e s' => R (.error e) s') s₃
            else ∃ m, m < n ∧ I m s₃) (notedBy (model prog w) A env fun e s' => R (.error e) s') s₂) (notedBy (model prog w) A env fun e s' => R (.error e) s') s₁) (notedBy (model prog w) A env fun e s' => R (.error e) s') s₁) (notedBy (model prog w) A env fun e s' => R (.error e) s') s)
    (n : Nat) (h : I n s) :
    codeAny (model prog w) A (.compLoop (.ListComp elt [⟨target, iter, ifs, 0⟩] scope pos) 0 it acc env) R s := by
  refine codeAny_loop rfl I (fun n s hI => ?_) n h
  show wpAny _ A ((compTurn (.ListComp elt [⟨target, iter, ifs, 0⟩] scope pos) 0 it acc env).onRaise (fun x => do noteFrame x env; theTreesLotGoes x)) _ _ s
  refine wpAny_noted ?_
  rw [compTurn_list]
  refine wpAny_bind (wpAny_standAt (wpAny_bind (wpAny_mono (turn n s hI) (fun r s₁ h₁ => ?_) fun _ _ h' => h')))
  cases r with
  | none => exact wpAny_pure h₁
  | some v =>
    refine wpAny_bind (wpAny_mono h₁ (fun _ s₁' h₁' => ?_) fun _ _ h' => h')
    refine wpAny_bind (wpAny_mono h₁' (fun _ s₂ h₂ => wpAny_bind (wpAny_mono h₂ (fun ok s₃ h₃ => ?_) fun _ _ h' => h')) fun _ _ h' => h')
    cases ok with
    | false => exact wpAny_pure ⟨rfl, h₃⟩
    | true =>
      exact wpAny_bind (wpAny_bind (wpAny_mono h₃ (fun x s₄ h₄ => wpAny_bind (wpAny_mono h₄ (fun _ s₅ h₅ => wpAny_pure (wpAny_pure ⟨rfl, h₅⟩)) fun _ _ h' => h')) fun _ _ h' => h'))
end

section
variable {prog : Program} {w : World} {A : Around} {E : Value → Shared → Prop} {env : Env}
theorem comp_blockJT {elt target iter : Expr} {ifs : List Expr} {scope : Scope} {cl : List (Str × Addr)} {pos : Pos} {s₂ : Shared} {I : Addr} {fp wr : List Addr} {n : Nat} {P : Nat → Value → Prop}
    {StI : Nat → Heap → Prop} (W : Walks prog w A I fp wr n P StI) (hsz : n ≤ sizeLine) (S X : List Addr) (J : Nat → List Value → Heap → Prop) {RR : Value → Addr → Result → Shared → Prop}
    (hcell : ∀ y ∈ scope.names, y.2 ≠ .cell) (hkind : scope.kind = .function) (hgo : ∀ i v s (Q : Unit → Shared → Prop) (E : Value → Shared → Prop), P i v → StI (i + 1) s.heap → Q () s → wpAny (model prog w) A (letOwnedTupleGo target (.ref I) v) Q E s)
    (hst : StI 0 s₂.heap) (hfp : ∀ b ∈ fp, b < s₂.heap.objs.size) (hS : ∀ b ∈ S, b < s₂.heap.objs.size ∧ b ∉ fp) (hX : ∀ b ∈ X, b < s₂.heap.objs.size)
    (hJm : ∀ i ys g g', Le g g' → J i ys g → J i ys g') (hJ0 : J 0 [] (hideAll s₂.heap (wr ++ X)))
    (turn : ∀ C D i v ys g m s₃ E', s₂.heap.get? C = none → s₂.heap.get? D = none → i < n → P i v → StI (i + 1) s₃.heap → (∃ o, s₃.heap.get? D = some o) → St g C m [] s₃.heap → Off g (C :: D :: wr ++ X) →
      (∀ b o, s₃.heap.get? b = some o → b ∉ (C :: D :: wr ++ X) → g.get? b = some o) → Ch (S ++ wr) s₂.heap s₃.heap → J i ys g →
      wpAny (model prog w) A (assign target (compEnvC scope cl C env) v) (fun _ s₄ =>
        wpAny (model prog w) A (forIn ifs true fun c r => if r = true then do let ok ← isTrue c (compEnvC scope cl C env) (eval c (compEnvC scope cl C env)); pure (ForInStep.yield ok) else pure (ForInStep.yield r)) (fun ok s₅ =>
          if ok = true then wpAny (model prog w) A (eval elt (compEnvC scope cl C env)) (fun y s₆ => TurnEnd (C :: D :: wr ++ X) S C (J (i + 1) (ys ++ [y])) s₃ s₆) E' s₅
          else TurnEnd (C :: D :: wr ++ X) S C (J (i + 1) ys) s₃ s₅) E' s₄) E' s₃)
    (hRR : ∀ D C g h' tk m' ys, s₂.heap.get? D = none → s₂.heap.get? C = none → D ≠ C → h'.Ns C m' → h'.PlainList D ys.toArray → ys.length ≤ n → Le g h' → Off g (C :: D :: wr ++ X) → J n ys g →
      Ch (S ++ wr) s₂.heap h' → RR (.ref D) C (.ok .next) { s₂ with heap := h', toks := tk }) :
    wpAny (model prog w) A (newList []) (fun acc s₃ => wpAny (model prog w) A (newFunctionEnv scope env.globals cl [] env.qual none .none (some env)) (fun cenv s₄ =>
      codeAny (model prog w) A (.compStart (.ListComp elt [⟨target, iter, ifs, 0⟩] scope pos) 0 (.ref I) acc { cenv with scope := relabel scope env }) (RR acc cenv.locals) s₄) E s₃) E s₂ := by
  refine wpAny_newObj_type (wpAny_newFunctionEnv hcell (by intro y hy; simp at hy) (fun h₁ hns₁ hsb₁ => ?_) hkind)
  dsimp only at hns₁ hsb₁ ⊢
  generalize hH2 : s₂.heap.push { cls := .type "list", dict := none, data := .seq ([] : List Value).toArray } = H2 at hns₁ hsb₁ ⊢
  have hC : H2.objs.size = s₂.heap.objs.size + 1 := by rw [← hH2, Heap.size_push]
  have hDC : s₂.heap.objs.size ≠ H2.objs.size := by rw [hC]; exact Nat.ne_of_lt (Nat.lt_succ_self _)
  have below : ∀ b, b < s₂.heap.objs.size → b ≠ H2.objs.size ∧ b ≠ s₂.heap.objs.size := fun b hb => ⟨by rw [hC]; exact Nat.ne_of_lt (Nat.lt_succ_of_lt hb), Nat.ne_of_lt hb⟩
  have old : ∀ b o, s₂.heap.get? b = some o → h₁.get? b = some o := fun b o e => hsb₁.extBut b o (below b (Heap.lt_size e)).1 (Heap.get?_push_of_some _ (hH2 ▸ Heap.get?_push_of_some _ e))
  have hacc : h₁.PlainList s₂.heap.objs.size #[] := ⟨_, hsb₁.extBut _ _ hDC (Heap.get?_push_of_some _ (hH2 ▸ Heap.get?_push_size _ rfl))⟩
  have hDn : s₂.heap.get? s₂.heap.objs.size = none := get_none_ge (Nat.le_refl _)
  have hCn : s₂.heap.get? H2.objs.size = none := get_none_ge (by rw [hC]; exact Nat.le_succ _)
  have hst₁ : StI 0 h₁ := W.frame _ _ _ hst fun b _ o e => old b o e
  generalize hDd : s₂.heap.objs.size = D at *
  generalize hCc : H2.objs.size = C at *
  have hDf : D ∉ fp := fun hm => Nat.lt_irrefl _ (hfp _ hm)
  have hCf : C ∉ fp := fun hm => (below _ (hfp _ hm)).1 rfl
  have hDS : D ∉ S := fun hm => Nat.lt_irrefl _ (hS _ hm).1
  have hCS : C ∉ S := fun hm => (below _ (hS _ hm).1).1 rfl
  have hDw : D ∉ wr := fun h => hDf (W.sub _ h)
  have hCw : C ∉ wr := fun h => hCf (W.sub _ h)
  have loop : ∀ s₃ : Shared, s₃ = { s₂ with heap := h₁, toks := s₂.toks + ([] : List (Str × Value)).length } →
      codeAny (model prog w) A (.compLoop (.ListComp elt [⟨target, iter, ifs, 0⟩] scope pos) 0 (.ref I) (.ref D) (compEnvC scope cl C env)) (RR (.ref D) C) s₃ := by
    rintro s₃ rfl
    refine codeAny_compLoop_testsT (fun k s' => ∃ h' tk m' ys i, s' = { s₂ with heap := h', toks := tk } ∧ i ≤ n ∧ k = n + 1 - i ∧ StI i h' ∧ h'.PlainList D ys.toArray ∧ h'.Ns C m' ∧ ys.length ≤ i ∧
      Ch (S ++ wr) s₂.heap h' ∧ J i ys (hideAll h' (C :: D :: wr ++ X))) ?_ (n + 1) ?_
    · rintro k s' ⟨h', tk, m', ys, i, rfl, hi, rfl, hst', hacc', hns', hlen, hch, hJ⟩
      by_cases hlt : i < n
      · refine W.item i _ _ _ hlt hst' fun v h₂ tk₂ hPv hst₂ hk₂ => ?_
        dsimp only
        have c₂ : Ch wr h' h₂ := fun b o e hn => hk₂ b o hn e
        have hns₂ := hns'.at' fun o e => hk₂ C o hCw e
        have cT : Ch (C :: D :: wr ++ X) h' h₂ := c₂.mono fun q hq => List.mem_append_left _ (.tail _ (.tail _ hq))
        refine hgo i v { s₂ with heap := h₂, toks := tk₂ } _ _ hPv hst₂ ?_
        refine wpAny_mono (turn C D i v ys (hideAll h₂ (C :: D :: wr ++ X)) m' { s₂ with heap := h₂, toks := tk₂ } _ hCn hDn hlt hPv hst₂ ⟨_, hk₂ D _ hDw hacc'.choose_spec⟩ ⟨hns₂, fun b o e => of_hideAll _ e, hideAll_none _ (.head _), fun p hp => nomatch hp⟩
          (fun b hb => hideAll_none _ hb) (fun b o e hn => hideAll_get _ e hn) (hch.trans (c₂.mono fun q hq => List.mem_append_right _ hq)) (hJm _ _ _ _ cT.hidden hJ)) (fun _ s₄ h₄ => wpAny_mono h₄ (fun ok s₅ h₅ => ?_) fun _ _ e => e) fun _ _ e => e
        have fin : ∀ (ys' : List Value) s', TurnEnd (C :: D :: wr ++ X) S C (J (i + 1) ys') { s₂ with heap := h₂, toks := tk₂ } s' → ∃ g' m' h' tk, s' = { s₂ with heap := h', toks := tk } ∧ StI (i + 1) h' ∧ h'.PlainList D ys.toArray ∧ h'.Ns C m' ∧ Le g' h' ∧ Off g' (C :: D :: wr ++ X) ∧ J (i + 1) ys' g' ∧ Ch (S ++ wr) s₂.heap h' := by
          rintro ys' s' ⟨g', m₁, h₁, tk₁, rfl, hc, hns, hle, hoff, hj⟩
          refine ⟨g', m₁, h₁, tk₁, rfl, W.frame _ _ _ hst₂ fun b hb o e => hc b o e fun q => ?_, (hacc'.at fun o e => hk₂ _ o hDw e).at fun o e => hc _ o e fun q => ?_, hns, hle, hoff, hj, fun b o e hn => ?_⟩
          · rcases List.mem_cons.mp q with q | q
            · exact hCf (q ▸ hb)
            · exact (hS _ q).2 hb
          · rcases List.mem_cons.mp q with q | q
            · exact hDC q
            · exact hDS q
          · refine hc b o (hk₂ b o (fun q => hn (List.mem_append_right _ q)) (hch b o e hn)) fun q => ?_
            rcases List.mem_cons.mp q with q | q
            · exact ne_none e hCn q
            · exact hn (List.mem_append_left _ q)
        cases ok with
        | false =>
          obtain ⟨g', m₁, h₁, tk₁, rfl, a1, a2, a3, a4, a5, a6, a7⟩ := fin _ _ h₅
          exact ⟨n + 1 - (i + 1), by omega, h₁, tk₁, m₁, ys, i + 1, rfl, hlt, rfl, a1, a2, a3, by omega, a7, hJm _ _ _ _ (a5.le a4) a6⟩
        | true =>
          refine wpAny_mono h₅ (fun y s₆ h₆ => ?_) fun _ _ e => e
          obtain ⟨g', m₁, h₁, tk₁, rfl, a1, a2, a3, a4, a5, a6, a7⟩ := fin _ _ h₆
          refine wpAny_list_append_plain (hsz := by simp; omega) a2 fun h₅ hl₅ hs₅ => ?_
          refine ⟨n + 1 - (i + 1), by omega, h₅, tk₁, m₁, ys ++ [y], i + 1, rfl, hlt, rfl, W.frame _ _ _ a1 fun b hb o e => hs₅.extBut b o (fun q => hDf (q ▸ hb)) e, by simpa using hl₅, a3.sameBut hs₅ (Ne.symm hDC), by simp; omega,
            fun b o e hn => hs₅.extBut b o (ne_none e hDn) (a7 b o e hn), hJm _ _ _ _ (a5.le fun b o e => hs₅.extBut b o (fun q => ?_) (a4 b o e)) a6⟩
          rw [q, a5 D (.tail _ (.head _))] at e; cases e
      · have hin : i = n := by omega
        subst hin
        refine W.done _ _ _ hst' fun h₂ tk₂ hk₂ => ?_
        have c₂ : Ch wr h' h₂ := fun b o e hn => hk₂ b o hn e
        have cT : Ch (C :: D :: wr ++ X) h' h₂ := c₂.mono fun q hq => List.mem_append_left _ (.tail _ (.tail _ hq))
        exact hRR D C _ h₂ tk₂ m' ys hDn hCn hDC (hns'.at' fun o e => hk₂ C o hCw e) (hacc'.at fun o e => hk₂ _ o hDw e) hlen (fun b o e => of_hideAll _ e) (fun b hb => hideAll_none _ hb) (hJm _ _ _ _ cT.hidden hJ)
          (hch.trans (c₂.mono fun q hq => List.mem_append_right _ hq))
    · refine ⟨h₁, _, _, [], 0, rfl, Nat.zero_le _, rfl, hst₁, hacc, hns₁, Nat.le_refl _, fun b o e _ => old b o e, hJm _ _ _ _ (fun b o e => ?_) hJ0⟩
      have h2 : b ∉ wr ++ X := fun q => by rw [hideAll_none _ q] at e; cases e
      have h3 := of_hideAll _ e
      refine hideAll_get _ (old _ _ h3) fun q => ?_
      rcases List.mem_cons.mp q with q | q
      · exact ne_none h3 hCn q
      · rcases List.mem_cons.mp q with q | q
        · exact ne_none h3 hDn q
        · exact h2 q
  exact codeAny_compStart_list (loop _ rfl) (W.self 0 _ _ _ hst₁ (loop _ rfl))
structure CompPlanT (prog : Program) (w : World) (A : Around) (env : Env) (elt target : Expr) (ifs : List Expr) (scope : Scope) (cl : List (Str × Addr)) (s₂ : Shared) (I : Addr) (fp wr : List Addr) (n : Nat) (P : Nat → Value → Prop)
    (StI : Nat → Heap → Prop) (S X : List Addr) (J : Nat → List Value → Heap → Prop) : Prop where
  W : Walks prog w A I fp wr n P StI
  hsz : n ≤ sizeLine
  hgo : ∀ i v s (Q : Unit → Shared → Prop) (E : Value → Shared → Prop), P i v → StI (i + 1) s.heap → Q () s → wpAny (model prog w) A (letOwnedTupleGo target (.ref I) v) Q E s
  hst : StI 0 s₂.heap
  hfp : ∀ b ∈ fp, b < s₂.heap.objs.size
  hS : ∀ b ∈ S, b < s₂.heap.objs.size ∧ b ∉ fp
  hX : ∀ b ∈ X, b < s₂.heap.objs.size
  hJm : ∀ i ys g g', Le g g' → J i ys g → J i ys g'
  hJ0 : J 0 [] (hideAll s₂.heap (wr ++ X))
  turn : ∀ C D i v ys g m s₃ E', s₂.heap.get? C = none → s₂.heap.get? D = none → i < n → P i v → StI (i + 1) s₃.heap → (∃ o, s₃.heap.get? D = some o) → St g C m [] s₃.heap → Off g (C :: D :: wr ++ X) →
        (∀ b o, s₃.heap.get? b = some o → b ∉ (C :: D :: wr ++ X) → g.get? b = some o) → Ch (S ++ wr) s₂.heap s₃.heap → J i ys g →
        wpAny (model prog w) A (assign target (compEnvC scope cl C env) v) (fun _ s₄ =>
          wpAny (model prog w) A (forIn ifs true fun c r => if r = true then do let ok ← isTrue c (compEnvC scope cl C env) (eval c (compEnvC scope cl C env)); pure (ForInStep.yield ok) else pure (ForInStep.yield r)) (fun ok s₅ =>
            if ok = true then wpAny (model prog w) A (eval elt (compEnvC scope cl C env)) (fun y s₆ => TurnEnd (C :: D :: wr ++ X) S C (J (i + 1) (ys ++ [y])) s₃ s₆) E' s₅
            else TurnEnd (C :: D :: wr ++ X) S C (J (i + 1) ys) s₃ s₅) E' s₄) E' s₃

/-- [elt for target in iter if …] as a value -/
theorem comp_valT {s : Shared} {elt target iter : Expr} {ifs : List Expr} {scope : Scope} {cl : List (Str × Addr)} {pos : Pos} {Q : Value → Shared → Prop}
    (hclos : closureFor scope env = pure cl) (hcell : ∀ y ∈ scope.names, y.2 ≠ .cell) (hkind : scope.kind = .function) (hnames : ∀ y ∈ scope.names, y.2 = .local → scope.names.lookup y.1 = some .local)
    (h : wpAny (model prog w) A (eval iter env) (fun xv s₁ => wpAny (model prog w) A (pyIter xv) (fun it s₂ => ∃ I fp wr n P StI S X J, it = .ref I ∧ CompPlanT prog w A env elt target ifs scope cl s₂ I fp wr n P StI S X J ∧
      (∀ D g h' tk (ys : List Value), s₂.heap.get? D = none → h'.PlainList D ys.toArray → ys.length ≤ n → Le g h' → Off g (D :: wr ++ X) → J n ys g → Ch (S ++ wr) s₂.heap h' → Q (.ref D) { s₂ with heap := h', toks := tk })) E s₁) E s)
    (hs : ∀ x, foldedSetIterable iter env x = pure x := by intro _; rfl) :
    wpAny (model prog w) A (eval (.ListComp elt [⟨target, iter, ifs, 0⟩] scope pos) env) Q E s := by
  rw [eval_ListComp]
  refine wpAny_comprehension_free (use := none) rfl hs hclos hkind hnames (wpAny_mono h (fun xv s₁ h₁ => wpAny_mono h₁ (fun it s₂ h₂ => ?_) fun _ _ e => e) fun _ _ e => e)
  obtain ⟨I, fp, wr, n, P, StI, S, X, J, rfl, ⟨W, hsz, ht, hst, hfp, hS, hX, hJm, hJ0, turn⟩, hQ⟩ := h₂
  refine comp_blockJT (RR := fun acc C => compPost (model prog w) A E none Q acc C) W hsz S X J hcell hkind ht hst hfp hS hX hJm hJ0 turn ?_
  intro D C g h' tk m' ys hD hC hDC hn hl hlen hle hoff hj hch
  refine ⟨m', hn, fun h'' hs'' => hQ D g h'' tk ys hD (hl.at fun o e => hs''.extBut _ o hDC e) hlen (fun b o e => hs''.extBut b o (fun q => ?_) (hle _ _ e)) (fun b hb => hoff b (.tail _ hb)) hj fun b o e hn => hs''.extBut b o (ne_none e hC) (hch b o e hn)⟩
  rw [q, hoff C (.head _)] at e; cases e

end
end Mine

set_option Elab.async false
set_option maxRecDepth 100000
set_option maxHeartbeats 8000000
set_option linter.unusedVariables false
open PySem PySem.W PyProof.Rows PySem.Calls
namespace Mine

local macro_rules | `(tactic| walk_at "m_s") => `(tactic| first
  | with_reducible refine wpAny_execs_cons ?_
  | with_reducible refine wpAny_execs_nil ?_
  | with_reducible refine wpAny_If ?_
  | with_reducible refine wpAny_Return_some ?_
  | ((with_reducible refine wpAny_Assign_Name ?_ ?hs); (case hs => with_unfolding_all rfl))
  | ((with_reducible refine wpAny_Assign_Subscript ?_ ?hs); (case hs => with_unfolding_all rfl))
  | with_reducible refine wpAny_BinOp ?_
  | ((with_reducible refine wpAny_Compare1 ?_ ?hm); (case hm => with_unfolding_all rfl))
  | ((with_reducible refine wpAny_isTrue_Compare1 ?_ ?hm); (case hm => with_unfolding_all rfl))
  | with_reducible refine wpAny_Constant_int ?_
  | with_reducible refine Constant_str ?_
  | with_reducible refine Constant_bool ?_
  | with_reducible refine Constant_none ?_
  | with_reducible refine Subscript_ ?_
  | with_reducible refine wpAny_truthy_bool ?_
  | ((with_reducible refine' nL (by assumption) (by assumption) (by assumption) ?hv ?_ ?hd); (case hd => decide); (case hv => first | assumption | with_unfolding_all rfl)))

section
variable {w : World} {A : Around} {E : Value → Shared → Prop} {s : Shared}
theorem plan_ofT {env : Env} {elt target : Expr} {ifs : List Expr} {scope : Scope} {cl : List (Str × Addr)} {g : Heap} {L D₀ : Addr} {m : Str → Option Value} {mv : List (Addr × Obj)} {items : Array Value} {R : Nat → List Value → Heap → Prop}
    (hh : A.handled = none) (S : St g L m mv s.heap) (hl : g.IsList D₀ items) (hsz : items.size ≤ 1000) (P : TurnPlan w A env elt target ifs scope cl g s items R)
    (hgo : ∀ (I : Addr) (i : Nat) (v : Value) (s' : Shared) (Q : Unit → Shared → Prop) (E : Value → Shared → Prop), items[i]? = some v → s'.heap.IsListIter I D₀ (i + 1) → Q () s' → wpAny (model Pg w) A (letOwnedTupleGo target (.ref I) v) Q E s') :
    CompPlanT Pg w A env elt target ifs scope cl { s with heap := s.heap.push { cls := .type "list_iterator", data := .fields #[.ref D₀, .int 0 0] } } s.heap.objs.size [s.heap.objs.size, D₀] [s.heap.objs.size] items.size (fun i v => items[i]? = some v)
      (fun i h => h.IsListIter s.heap.objs.size D₀ i ∧ h.IsList D₀ items) [] (L :: mv.map (·.1)) (fun i ys g' => Le g g' ∧ R i ys g') := by
  have hit : (s.heap.push { cls := .type "list_iterator", data := .fields #[.ref D₀, .int 0 0] }).get? s.heap.objs.size = some { cls := .type "list_iterator", data := .fields #[.ref D₀, .int 0 0] } := Heap.get?_push_size _ rfl
  have k₁ := Le.push s.heap { cls := .type "list_iterator", data := .fields #[.ref D₀, .int 0 0] }
  have hIn : s.heap.get? s.heap.objs.size = none := get_none_ge (Nat.le_refl _)
  have hIs : s.heap.objs.size < (s.heap.push { cls := .type "list_iterator", data := .fields #[.ref D₀, .int 0 0] }).objs.size := Heap.lt_size hit
  generalize s.heap.push { cls := .type "list_iterator", data := .fields #[.ref D₀, .int 0 0] } = h₁ at *
  generalize s.heap.objs.size = I at *
  obtain ⟨oD, hoD, rD⟩ := id hl
  have hD₁ : h₁.IsList D₀ items := ⟨oD, k₁ _ _ (S.keep _ _ hoD), rD⟩
  have DI : D₀ ≠ I := ne_none (S.keep _ _ hoD) hIn
  have aX : ∀ b ∈ L :: mv.map (·.1), ∃ o, s.heap.get? b = some o := fun b hb => by
    rcases List.mem_cons.mp hb with rfl | hb
    · obtain ⟨o, _, _, ho, _⟩ := S.ns; exact ⟨o, ho⟩
    · obtain ⟨p, hp, rfl⟩ := List.mem_map.mp hb; exact ⟨_, (S.mv p hp).1⟩
  have gX : ∀ b ∈ L :: mv.map (·.1), g.get? b = none := fun b hb => by
    rcases List.mem_cons.mp hb with rfl | hb
    · exact S.off
    · obtain ⟨p, hp, rfl⟩ := List.mem_map.mp hb; exact (S.mv p hp).2.2
  have gI : g.get? I = none := S.none hIn
  have IX : ∀ b ∈ L :: mv.map (·.1), b ≠ I := fun b hb => let ⟨_, ho⟩ := aX b hb; ne_none ho hIn
  refine ⟨Walks.list hh I D₀ DI items, by rw [sizeLine_eq]; omega, (fun i v s' Q' E' hp hst q => hgo _ i v s' Q' E' hp hst.1 q), ⟨⟨_, hit, rfl, rfl⟩, hD₁⟩, ?_, ?_, ?_, ?_, ?_, ?_⟩
  · intro b hb
    rcases List.mem_cons.mp hb with rfl | hb
    · exact hIs
    · rw [List.mem_singleton.mp hb]; exact Heap.lt_size (k₁ _ _ (S.keep _ _ hoD))
  · exact fun b hb => nomatch hb
  · intro b hb; obtain ⟨o, ho⟩ := aX b hb; exact Heap.lt_size (k₁ _ _ ho)
  · exact fun i ys g₁ g₂ k ⟨a, b⟩ => ⟨fun b o e => k _ _ (a _ _ e), P.mono i ys _ _ k b⟩
  · have kg : Le g (hideAll h₁ ([I] ++ (L :: mv.map (·.1)))) := fun b o e => hideAll_get _ (k₁ _ _ (S.keep _ _ e)) fun q => by
      rcases List.mem_append.mp q with q | q
      · rw [List.mem_singleton.mp q, gI] at e; cases e
      · rw [gX b q] at e; cases e
    exact ⟨kg, P.zero _ kg⟩
  · intro C D i v ys gT m₃ s₃ E' hC hD hi hP hIt hDa Sc ho hr hc ⟨j1, j2⟩
    have cI : ∀ b o, h₁.get? b = some o → b ≠ I → s₃.heap.get? b = some o := fun b o e n => hc b o e (by simpa using n)
    have sC : s.heap.get? C = none := by
      cases q : s.heap.get? C with
      | none => rfl
      | some o => rw [k₁ _ _ q] at hC; cases hC
    have ST : ∀ b ∈ C :: D :: [I] ++ (L :: mv.map (·.1)), ∃ o, s₃.heap.get? b = some o := fun b hb => by
      rcases List.mem_cons.mp hb with rfl | hb
      · obtain ⟨o, _, _, ho, _⟩ := Sc.ns; exact ⟨o, ho⟩
      rcases List.mem_cons.mp hb with rfl | hb
      · exact hDa
      rcases List.mem_append.mp hb with hb | hb
      · rw [List.mem_singleton.mp hb]; obtain ⟨⟨o, e, _⟩, _⟩ := hIt; exact ⟨o, e⟩
      · obtain ⟨o, ho⟩ := aX b hb; exact ⟨o, cI b o (k₁ _ _ ho) (IX b hb)⟩
    have conv : ∀ (ys' : List Value) s', TurnEnd (C :: D :: [I] ++ (L :: mv.map (·.1))) [] C (R (i + 1) ys') s₃ s' → TurnEnd (C :: D :: [I] ++ (L :: mv.map (·.1))) [] C (fun g' => Le g g' ∧ R (i + 1) ys' g') s₃ s' := by
      rintro ys' s' ⟨g', m', h', tk, rfl, c, n, k, o, r⟩
      refine .of (g' := g') rfl c n ⟨fun b ob e => hideAll_get _ (c b ob (Sc.keep _ _ (j1 _ _ e)) fun q => ?_) (ho.ne (j1 _ _ e)), P.mono _ _ _ _ (o.le k) r⟩
      rw [List.mem_singleton.mp q] at e
      have := ho C (.head _)
      rw [j1 _ _ e] at this; cases this
    refine wpAny_mono (P.turn _ C i v ys gT m₃ s₃ E' ST (.head _) hP sC Sc ho j1 j2 fun b o e => cI b o (k₁ _ _ e) (ne_none e hIn)) (fun _ s₄ h₄ => wpAny_mono h₄ (fun ok s₅ h₅ => ?_) fun _ _ e => e) fun _ _ e => e
    cases ok with
    | false => exact conv _ _ h₅
    | true => exact wpAny_mono h₅ (fun y s₆ h₆ => conv _ _ h₆) fun _ _ e => e

theorem list_comp_valT {elt target iter : Expr} {ifs : List Expr} {scope : Scope} {cl : List (Str × Addr)} {pos : Pos} {Q : Value → Shared → Prop} {env : Env} {g : Heap} {L D₀ : Addr} {m : Str → Option Value} {mv : List (Addr × Obj)} {items : Array Value} {R : Nat → List Value → Heap → Prop}
    (hclos : closureFor scope env = pure cl) (hcell : ∀ y ∈ scope.names, y.2 ≠ .cell) (hkind : scope.kind = .function) (hnames : ∀ y ∈ scope.names, y.2 = .local → scope.names.lookup y.1 = some .local)
    (hh : A.handled = none) (S : St g L m mv s.heap) (hl : g.IsList D₀ items) (hsz : items.size ≤ 1000) (P : TurnPlan w A env elt target ifs scope cl g s items R)
    (hiter : ∀ (Q : Value → Shared → Prop) (E : Value → Shared → Prop), Q (.ref D₀) s → wpAny (model Pg w) A (eval iter env) Q E s)
    (h : ∀ D g' h' tk (ys : List Value), Le g g' → St g' L m mv h' → g'.PlainList D ys.toArray → R items.size ys g' → Le s.heap h' → s.heap.get? D = none → Q (.ref D) { s with heap := h', toks := tk })
    (hgo : ∀ (I : Addr) (i : Nat) (v : Value) (s' : Shared) (Q : Unit → Shared → Prop) (E : Value → Shared → Prop), items[i]? = some v → s'.heap.IsListIter I D₀ (i + 1) → Q () s' → wpAny (model Pg w) A (letOwnedTupleGo target (.ref I) v) Q E s') (hs : ∀ x, foldedSetIterable iter env x = pure x := by intro _; rfl) :
    wpAny (model Pg w) A (eval (.ListComp elt [⟨target, iter, ifs, 0⟩] scope pos) env) Q E s := by
  refine comp_valT hclos hcell hkind hnames (hiter _ _ (wpAny_pyIter_list (let ⟨o, e, r⟩ := hl; ⟨o, S.keep _ _ e, r⟩) ?_)) hs
  have hIn : s.heap.get? s.heap.objs.size = none := get_none_ge (Nat.le_refl _)
  refine ⟨_, _, _, _, _, _, _, _, _, rfl, plan_ofT hh S hl hsz P hgo, ?_⟩
  intro D gJ h' tk ys hD hpl hlen hle hoff ⟨j1, j2⟩ hch
  have k₁ := Le.push s.heap { cls := .type "list_iterator", data := .fields #[.ref D₀, .int 0 0] }
  have kk : Le s.heap h' := fun b o e => hch b o (k₁ _ _ e) (by simpa using ne_none e hIn)
  obtain ⟨g', a, b, c, d, e⟩ := comp_back (R := fun g' => R items.size ys g') S (fun _ _ k r => P.mono _ _ _ _ k r) hD hpl hle hoff j2 (hch.mono fun q hq => .tail _ hq) (S.ns.keeps kk)
  exact h D g' h' tk ys a b c d kk (by
    cases q : s.heap.get? D with
    | none => rfl
    | some o => rw [k₁ _ _ q] at hD; cases hD)

/-- _law_shown(one, row) for one, row in stages -/
theorem shown_turn {env : Env} {g : Heap} {L : Addr} {items : Array Value} {scope : Scope} {k : Nat} {p1 p2 p3 p4 p5 p6 p7 : Pos} (O : Ok A 5) (EE : EF env L) (Bg : Base w g) (hit : ∀ v ∈ items.toList, StageAt w g v)
    (hk : scope.kind = .function) (h1 : scope.names.lookup (Str.ofString "one") = some .local) (h2 : scope.names.lookup (Str.ofString "row") = some .local) (h3 : scope.names.lookup (Str.ofString "_law_shown") = some .globalImplicit) :
    TurnPlan w A env (.Call (.Name (Str.ofString "_law_shown") p1) [.Name (Str.ofString "one") p2, .Name (Str.ofString "row") p3] [] p4) (.Tuple [.Name (Str.ofString "one") p5, .Name (Str.ofString "row") p6] k p7) [] scope [] g s items
      (fun i ys _ => ys = List.replicate i (.bool true)) where
  ht := fun _ _ => .inr trivial
  mono := fun i ys g₁ g₂ k h => h
  zero := fun g' _ => rfl
  turn := by
    intro T C i v ys gT m₃ s₃ E' hT hCT hi sC Sc ho kg hR hls
    have hvm : v ∈ items.toList := by
      have := Array.mem_of_getElem? hi
      simpa using this
    obtain ⟨Tp, a, b, rs, rfl, tp, Da, Db⟩ := hit v hvm
    have EC := EE.comp (C := C) (scope := scope) (cl := []) hk
    have c1 : (compEnvC scope [] C env).kindOf (Str.ofString "one") = some .local := kind_keep h1 (by decide)
    have c2 : (compEnvC scope [] C env).kindOf (Str.ofString "row") = some .local := kind_keep h2 (by decide)
    have c3 : (compEnvC scope [] C env).kindOf (Str.ofString "_law_shown") = some .globalImplicit := kind_keep h3 (by decide)
    generalize compEnvC scope [] C env = cenv at *
    refine assign_two O.handled EC Sc (tp.keeps fun b o e => Sc.keep _ _ (kg _ _ e)) c1 c2 fun h₄ tk₄ S₄ cs => wpAny_tests_nil ?_
    rw [if_pos rfl]
    have B₄ := S₄.base (Bg.keeps kg)
    refine Call_Name2 (nK (s := { s₃ with heap := h₄, toks := tk₄ }) EC B₄ c3 (gName w.params).2.2.2.2.1 (cwK2 (w := w) (keepF_of 182 (by decide)) ?_) (by decide)) rfl
    refine nL (s := { s₃ with heap := h₄, toks := tk₄ }) EC S₄ c1 (updN_ne updN_eq) ?_
    refine nL (s := { s₃ with heap := h₄, toks := tk₄ }) EC S₄ c2 updN_eq ⟨B₄, wpAny_call ?_⟩
    have ke : Le g h₄ := fun b o e => S₄.keep _ _ (kg _ _ e)
    refine shown_spec (s := { s₃ with heap := h₄, toks := tk₄ }) (n := 2) O B₄ (Da.keeps ke) (Db.keeps ke) fun h₅ tk₅ k₅ => ?_
    refine .of (g' := gT) (m' := updN (updN m₃ (Str.ofString "one") (.ref a)) (Str.ofString "row") (.ref b)) rfl (cs.trans (.of_le k₅)) (S₄.ns.keeps k₅) ?_
    rw [hR, List.replicate_succ']

theorem go_list {g : Heap} {items : Array Value} {D₀ : Addr} {elts : List Expr} {k : Nat} {p : Pos} (hit : ∀ v ∈ items.toList, StageAt w g v) :
    ∀ (I : Addr) (i : Nat) (v : Value) (s' : Shared) (Q : Unit → Shared → Prop) (E : Value → Shared → Prop), items[i]? = some v → s'.heap.IsListIter I D₀ (i + 1) → Q () s' → wpAny (model Pg w) A (letOwnedTupleGo (.Tuple elts k p) (.ref I) v) Q E s' := by
  intro I i v s' Q E hi hI q
  obtain ⟨Tp, _, _, _, rfl, _⟩ := hit v (by have := Array.mem_of_getElem? hi; simpa using this)
  exact wpAny_letOwnedTupleGo_listiter hI q
end
end Mine

set_option Elab.async false
set_option maxRecDepth 100000
set_option maxHeartbeats 8000000
set_option linter.unusedVariables false
open PySem PySem.W PyProof.Rows PySem.Calls
namespace Mine

local macro_rules | `(tactic| walk_at "m_s") => `(tactic| first
  | with_reducible refine wpAny_execs_cons ?_
  | with_reducible refine wpAny_execs_nil ?_
  | with_reducible refine wpAny_If ?_
  | with_reducible refine wpAny_Return_some ?_
  | ((with_reducible refine wpAny_Assign_Name ?_ ?hs); (case hs => with_unfolding_all rfl))
  | ((with_reducible refine wpAny_Assign_Subscript ?_ ?hs); (case hs => with_unfolding_all rfl))
  | with_reducible refine wpAny_BinOp ?_
  | ((with_reducible refine wpAny_Compare1 ?_ ?hm); (case hm => with_unfolding_all rfl))
  | ((with_reducible refine wpAny_isTrue_Compare1 ?_ ?hm); (case hm => with_unfolding_all rfl))
  | with_reducible refine wpAny_Constant_int ?_
  | with_reducible refine Constant_str ?_
  | with_reducible refine Constant_bool ?_
  | with_reducible refine Constant_none ?_
  | with_reducible refine Subscript_ ?_
  | with_reducible refine wpAny_truthy_bool ?_
  | ((with_reducible refine' nL (by assumption) (by assumption) (by assumption) ?hv ?_ ?hd); (case hd => decide); (case hv => first | assumption | with_unfolding_all rfl)))

theorem repl_foldl (x : Value) : ∀ (n : Nat) (acc : Array Value), List.foldl (fun x1 x2 => x1 ++ x2) acc (List.replicate n #[x]) = acc ++ (List.replicate n x).toArray
  | 0, acc => by simp
  | n + 1, acc => by
    rw [List.replicate_succ, List.foldl_cons, repl_foldl x n, List.replicate_succ]
    apply Array.ext'
    simp

section
variable {w : World} {A : Around} {E : Value → Shared → Prop} {s : Shared}
theorem mul_listL {l : Addr} {items : Array Value} {k : Nat} {x : Int} {u : Tok} {Q : Value → Shared → Prop}
    (hl : s.heap.get? l = some { cls := .type "list", dict := none, data := .seq items k, slots := #[] })
    (hlo : -(2 ^ 63 : Int) ≤ x) (hhi : x < 2 ^ 63) (hsz : items.size * x.toNat ≤ 2 ^ 24)
    (h : ∀ h', Le s.heap h' → h'.IsList s.heap.objs.size (List.foldl (fun x1 x2 => x1 ++ x2) #[] (List.replicate (if items.isEmpty = true then 0 else x.toNat) items)) → Q (.ref s.heap.objs.size) { s with heap := h' }) :
    wpAny (model Pg w) A (binaryOp .Mult (.ref l) (.int x u)) Q E s :=
  wpAny_binaryOp_repeat_ref (T := "list") (U := "int") (by decide) ⟨_, hl, rfl⟩ (fun s' => typeIs_int s' x u) noFill_list_mul F.fills_int_mul F.slot_int_rmul repeat_list F.slot_int_index.lookup
    (call_meets F.slot_int_rmul (typeIs_int s x u) F.entry_int_rmul (F.args_int_rmul_2 _ _) (int___rmul___int_list x u l items k)
      ⟨hl, rfl, ⟨_, hl, rfl⟩, call_meets F.slot_list_mul ⟨_, hl, rfl⟩ F.entry_list_mul (F.args_list_mul_2 _ _)
        (AutoListH.list___mul___list_int_3 l items k x u (by simp [Builtin.List.listFitsIndex]; omega) (by omega) (by simp [Builtin.List.listTooLong, sizeLine]; omega))
        ⟨hl, h _ (Le.push _ _) ⟨_, Heap.get?_push_size _ rfl, rfl, _, rfl⟩⟩⟩)

/-- [_law_shown(one, row) for one, row in stages] == [True] * len(stages) -/
theorem law_end {env : Env} {g : Heap} {L cS cM stg : Addr} {m : Str → Option Value} {mv : List (Addr × Obj)} {items : Array Value} {Q : Flow → Shared → Prop} (le : LE env L cS cM) (O : Ok A 9) (Bg : Base w g) (S : St g L m mv s.heap)
    (mS : m (Str.ofString "stages") = some (.ref stg)) (hl : g.IsList stg items) (hsz : items.size ≤ 100) (hit : ∀ v ∈ items.toList, StageAt w g v)
    (h : ∀ h' tk, Le g h' → Q (.ret (.bool true)) { s with heap := h', toks := tk }) : wpAny (model Pg w) A (exec (lst w.params 5) env) Q E s := by
  have he : lst w.params 5 = .Return (some (.Compare _ _ _ _)) _ := rfl
  rw [he]
  clear he
  refine wpAny_Return_some ?_
  refine wpAny_Compare1 ?_ (by with_unfolding_all rfl)
  refine list_comp_valT rfl (by decide +kernel) rfl (by decide +kernel) O.handled S hl (by omega) (shown_turn (O.mono (by omega)) le.ef Bg hit rfl rfl rfl rfl) (fun Q' E' q => nL le.ef S (le.l "stages") mS q) (fun D g' h₁ tk₁ ys k₁ S₁ hp R kk _ => ?_) (go_list hit)
  subst R
  have B₁ := S₁.base (Bg.keeps k₁)
  refine wpAny_BinOp ?_
  refine List_ ?_
  show wpAny _ _ (spliced [(false, _)]) _ _ _
  refine spliced_cons ?_
  rw [if_neg (by decide)]
  refine Constant_bool (spliced_nil ?_)
  refine wpAny_newObj_type ?_
  have k₂ := Le.push h₁ { cls := .type "list", data := .seq [Value.bool true].toArray }
  have e₂ : (h₁.push { cls := .type "list", data := .seq [Value.bool true].toArray }).get? h₁.objs.size = some { cls := .type "list", data := .seq [Value.bool true].toArray } := Heap.get?_push_size _ rfl
  dsimp only
  generalize h₁.push { cls := .type "list", data := .seq [Value.bool true].toArray } = h₂ at *
  generalize h₁.objs.size = l₂ at *
  have S₂ := S₁.le k₂
  refine Call_Name1 (nB (s := { s with heap := h₂, toks := tk₁ }) le.ef (S₂.base (Bg.keeps k₁)) (le.g "len") (notMine_of "len" (by decide)) boots.1 (by decide) (cwB1 ?_)) rfl
  refine nL (s := { s with heap := h₂, toks := tk₁ }) le.ef S₂ (le.l "stages") mS ?_
  obtain ⟨oS, hoS, rS⟩ := hl
  refine len_list (s := { s with heap := h₂, toks := tk₁ }) ⟨oS, S₂.keep _ _ (k₁ _ _ hoS), rS⟩ (by omega) ?_
  refine mul_listL (x := ((items.size : Nat) : Int)) (s := { s with heap := h₂, toks := tk₁ + 1 + 1 }) e₂ (by omega) (by omega) (by simp; omega) fun h₃ k₃ l₃ => ?_
  have e3 : List.foldl (fun x1 x2 => x1 ++ x2) #[] (List.replicate (if ([Value.bool true].toArray).isEmpty = true then 0 else ((items.size : Nat) : Int).toNat) [Value.bool true].toArray) = (List.replicate items.size (Value.bool true)).toArray := by
    have := repl_foldl (.bool true) items.size #[]
    simpa using this
  rw [e3] at l₃
  obtain ⟨oD, hoD, rD⟩ := list_of_plain hp
  refine SeqAt.eq_listAt (e := fun _ => true) (s := { s with heap := h₃, toks := tk₁ + 1 + 1 }) ⟨oD, k₃ _ _ (k₂ _ _ (S₁.keep _ _ hoD)), rD⟩ l₃ (by simp) (by show A.units < 9900; have := O.units; omega) (fun j h1 h2 => ?_) ?_
  · have a1 : (List.replicate items.size (Value.bool true)).toArray[j] = .bool true := by simp
    rw [a1]
    exact SeqAt.EqAt.same _
  rw [List.all_eq_true.mpr fun _ _ => rfl]
  exact h _ _ fun b o e => k₃ _ _ (k₂ _ _ (S₁.keep _ _ (k₁ _ _ e)))
end
end Mine

set_option Elab.async false
set_option maxRecDepth 100000
set_option maxHeartbeats 8000000
set_option linter.unusedVariables false
open PySem PySem.W PyProof.Rows PySem.Calls
namespace Mine

/-- what was made anew stands in the part that is frozen -/
theorem NewR.frozen {w : World} {im : Bool} {h₀ h g' : Heap} {L a : Addr} {rs : Rw} {mv : List (Addr × Obj)} (N : NewR w im h₀ h a rs)
    (fz : ∀ b o, h.get? b = some o → b ≠ L → (∀ p ∈ mv, p.1 ≠ b) → g'.get? b = some o) (hL : ∃ o, h₀.get? L = some o) (hm : ∀ p ∈ mv, ∃ o, h₀.get? p.1 = some o) : Rows w im g' a rs := by
  obtain ⟨gn, k, n, R⟩ := N
  refine R.keeps fun b o e => fz b o (k b o e) (fun q => ?_) fun p hp q => ?_
  · obtain ⟨x, hx⟩ := hL; rw [q, n _ _ hx] at e; cases e
  · obtain ⟨x, hx⟩ := hm p hp; rw [← q, n _ _ hx] at e; cases e

section
variable {w : World} {A : Around} {E : Value → Shared → Prop} {s : Shared}

/-- state = [script[:60], 0, 17] -/
theorem law_state {env : Env} {g : Heap} {L cS cM l0 : Addr} {m : Str → Option Value} {oS oM : Obj} {v0 : Option Value} {vs : List Value} {ns : List Int} {Q : Flow → Shared → Prop} (le : LE env L cS cM)
    (S : St g L m [(cS, oS), (cM, oM)] s.heap) (ne : cS ≠ cM) (hoS : oS.data = .cell v0) (mSc : m (Str.ofString "script") = some (.ref l0)) (hl : g.IsList l0 vs.toArray) (hi : IntsAre vs ns) (hn : ns.length ≤ 63)
    (h : ∀ l st oS' oSt g' h' tk, Le g g' → St g' L m [(cS, oS'), (cM, oM), (st, oSt)] h' → oS'.data = .cell (some (.ref st)) → StNow h' st l → (∃ o, g'.get? l = some o) → cS ≠ st → cM ≠ st → Q .next { s with heap := h', toks := tk }) :
    wpAny (model Pg w) A (exec (lst w.params 0) env) Q E s := by
  have he : lst w.params 0 = .Assign _ _ _ := rfl
  rw [he]
  clear he
  refine wpAny_Assign_Name ?_ rfl
  refine List_ ?_
  show wpAny _ _ (spliced [(false, _), (false, _), (false, _)]) _ _ _
  refine spliced_cons ?_
  rw [if_neg (by decide)]
  have hlen : vs.length = ns.length := hi.length
  obtain ⟨ol, hol, rl⟩ := hl
  have hl0 : s.heap.IsList l0 vs.toArray := ⟨ol, S.keep _ _ hol, rl⟩
  refine Subscript_Slice (nL le.ef S (le.l "script") mSc ?_)
  refine wpAny_Slice (evalPart_none_step (evalPart_some_step (wpAny_Constant_int (evalPart_none_step ?_))))
  refine ⟨"list", _, list_getitem_lookup, Heap.IsList.typeIs (hl0.push _), wpAny_getItem_list_slice (hl0.push _) (Heap.IsSliceOf.new ..) .none (.int _ _) .none (by simp) ?_ (by rw [sizeLine_eq]; simp; omega)⟩
  have hi2 := slice_ints_uptoW hi (y := 60) (by omega)
  generalize hsl : slicePick vs.toArray none (some 60) none = its2 at *
  have k₁ : Le s.heap (s.heap.push { cls := .type "slice", data := .fields #[.none, .int 60 s.toks, .none] }) := Le.push _ _
  dsimp only
  generalize s.heap.push { cls := .type "slice", data := .fields #[.none, .int 60 s.toks, .none] } = h₁ at *
  have k₂ := Le.push h₁ { cls := .type "list", data := .seq its2 }
  have e₂ : (h₁.push { cls := .type "list", data := .seq its2 }).get? h₁.objs.size = some { cls := .type "list", data := .seq its2 } := Heap.get?_push_size _ rfl
  have f₁ : h₁.get? h₁.objs.size = none := get_none_ge (Nat.le_refl _)
  generalize h₁.push { cls := .type "list", data := .seq its2 } = h₂ at *
  generalize h₁.objs.size = l at *
  refine spliced_cons ?_
  rw [if_neg (by decide)]
  refine wpAny_Constant_int (spliced_cons ?_)
  rw [if_neg (by decide)]
  refine wpAny_Constant_int (spliced_nil ?_)
  refine wpAny_newObj_type ?_
  have k₃ := Le.push h₂ { cls := .type "list", data := .seq [Value.ref l, Value.int 0 (s.toks + 1), Value.int 17 (s.toks + 1 + 1)].toArray }
  have e₃ : (h₂.push { cls := .type "list", data := .seq [Value.ref l, Value.int 0 (s.toks + 1), Value.int 17 (s.toks + 1 + 1)].toArray }).get? h₂.objs.size = some { cls := .type "list", data := .seq [Value.ref l, Value.int 0 (s.toks + 1), Value.int 17 (s.toks + 1 + 1)].toArray } := Heap.get?_push_size _ rfl
  have f₂ : h₂.get? h₂.objs.size = none := get_none_ge (Nat.le_refl _)
  dsimp only
  generalize h₂.push { cls := .type "list", data := .seq [Value.ref l, Value.int 0 (s.toks + 1), Value.int 17 (s.toks + 1 + 1)].toArray } = h₃ at *
  generalize h₂.objs.size = st at *
  have S₂ := (S.le k₁).le k₂
  have S₃ := S₂.le k₃
  have hcS : h₃.IsCell cS v0 := ⟨oS, (S₃.mv (cS, oS) (.head _)).1, hoS⟩
  refine wpAny_storeName_cell le.ef.kind le.kS le.cS hcS fun h₄ hc₄ hs₄ => ?_
  obtain ⟨oS', ho', hd'⟩ := hc₄
  have c₄ : Ch [cS] h₃ h₄ := Ch.of_same hs₄
  have S₄ : St g L m [(cS, oS'), (cM, oM)] h₄ := St.upd (pre := []) (post := [(cM, oM)]) S₃ c₄ ho' (by
    intro p hp
    have : p = (cM, oM) := by simpa using hp
    rw [this]; exact ne.symm)
  have nS : cS ≠ st := S₂.neMut f₂ (cS, oS) (.head _)
  have nM : cM ≠ st := S₂.neMut f₂ (cM, oM) (.tail _ (.head _))
  have nSl : cS ≠ l := (S.le k₁).neMut f₁ (cS, oS) (.head _)
  have nMl : cM ≠ l := (S.le k₁).neMut f₁ (cM, oM) (.tail _ (.head _))
  have stL : st ≠ L := S₂.ne f₂
  have lL : l ≠ L := (S.le k₁).ne f₁
  have stl : st ≠ l := fun q => by rw [← q, f₂] at e₂; cases e₂
  have est : h₄.get? st = some { cls := .type "list", data := .seq [Value.ref l, Value.int 0 (s.toks + 1), Value.int 17 (s.toks + 1 + 1)].toArray } := c₄ _ _ e₃ (by simpa using nS.symm)
  have el : h₄.get? l = some { cls := .type "list", data := .seq its2 } := c₄ _ _ (k₃ _ _ e₂) (by simpa using nSl.symm)
  have gst : g.get? st = none := S₂.none f₂
  have S₅ : St g L m [(cS, oS'), (cM, oM), (st, { cls := .type "list", data := .seq [Value.ref l, Value.int 0 (s.toks + 1), Value.int 17 (s.toks + 1 + 1)].toArray })] h₄ := (S₄.add est stL gst).sub (by
    intro p hp
    simp only [List.mem_cons, List.not_mem_nil, or_false] at hp ⊢
    rcases hp with rfl | rfl | rfl <;> simp)
  obtain ⟨g', S₆, k', fz⟩ := S₅.freeze
  refine h l st oS' _ g' h₄ _ k' S₆ hd' ⟨⟨0, 17, _, _, ⟨_, est, rfl, _, rfl⟩, by omega, by omega, by omega, by omega⟩, ⟨its2.toList, _, ⟨_, el, rfl, 0, by rw [Array.toArray_toList]⟩, hi2, by simp; omega⟩, stl⟩ ⟨_, fz _ _ el lL fun p hp => ?_⟩ nS nM
  simp only [List.mem_cons, List.not_mem_nil, or_false] at hp
  rcases hp with rfl | rfl | rfl
  · exact nSl
  · exact nMl
  · exact stl

/-- rows = _law_plain(state) -/
theorem law_rows {env : Env} {g : Heap} {L cS cM st l : Addr} {m : Str → Option Value} {oS oM oSt : Obj} {Q : Flow → Shared → Prop} (le : LE env L cS cM) (O : Ok A 9) (Bg : Base w g) (a : cS ≠ cM) (b : cS ≠ st) (c : cM ≠ st)
    (S : St g L m [(cS, oS), (cM, oM), (st, oSt)] s.heap) (X : StNow s.heap st l) (hlg : ∃ o, g.get? l = some o) (hoS : oS.data = .cell (some (.ref st)))
    (h : ∀ d rs oSt' g' h' tk, Le g g' → St g' L (updN m (Str.ofString "rows") (.ref d)) [(cS, oS), (cM, oM), (st, oSt')] h' → StNow h' st l → Rows w false g' d rs → Q .next { s with heap := h', toks := tk }) :
    wpAny (model Pg w) A (exec (lst w.params 1) env) Q E s := by
  have he : lst w.params 1 = .Assign _ _ _ := rfl
  rw [he]
  clear he
  have B := S.base Bg
  have gst : g.get? st = none := (S.mv (st, oSt) (.tail _ (.tail _ (.head _)))).2.2
  have hcS : s.heap.IsCell cS (some (.ref st)) := ⟨oS, (S.mv (cS, oS) (.head _)).1, hoS⟩
  have XX := X.ok Bg S.keep gst
  refine wpAny_Assign_Name ?_ rfl
  refine Call_Name1 (nK le.ef B (le.g "_law_plain") (gName w.params).2.1 (cwK1 (w := w) (keepF_of 161 (by decide)) ?_) (by decide)) rfl
  refine nC le.ef le.kS le.cS hcS ⟨XX.b, wpAny_call ?_⟩ (by decide)
  refine plain_spec (n := 6) O XX fun d rs h₁ tk₁ N X₁ c₁ => ?_
  obtain ⟨o₁, S₁⟩ := St.next (pre := [(cS, oS), (cM, oM)]) (post := []) S c₁ X₁.toNow (by
    intro p hp
    simp only [List.cons_append, List.nil_append, List.append_nil, List.mem_cons, List.not_mem_nil, or_false] at hp
    rcases hp with rfl | rfl
    · exact b
    · exact c)
  refine sL' (s := { s with heap := h₁, toks := _ }) le.ef S₁ (le.l "rows") fun h₂ S₂ c₂ => ?_
  obtain ⟨oL, _, _, hoL, _⟩ := S.ns
  have stL : st ≠ L := (S.mv (st, oSt) (.tail _ (.tail _ (.head _)))).2.1
  have lL : l ≠ L := fun q => by obtain ⟨o, ho⟩ := hlg; rw [q, S.off] at ho; cases ho
  have N₂ := N.ch c₂ (fun b hb => by rw [List.mem_singleton.mp hb]; exact ⟨_, hoL⟩)
  obtain ⟨g', S', k', fz⟩ := S₂.freeze
  refine h d rs o₁ g' h₂ _ k' S' (X₁.toNow.ch c₂ (by simpa using stL) (by simpa using lL)) (N₂.frozen fz ⟨_, hoL⟩ fun p hp => ?_)
  simp only [List.cons_append, List.nil_append, List.mem_cons, List.not_mem_nil, or_false] at hp
  rcases hp with rfl | rfl | rfl
  · exact ⟨_, (S.mv (cS, oS) (.head _)).1⟩
  · exact ⟨_, (S.mv (cM, oM) (.tail _ (.head _))).1⟩
  · exact ⟨_, (S.mv (st, oSt) (.tail _ (.tail _ (.head _)))).1⟩

/-- current = immutabledict(dict(rows)) -/
theorem law_cur {env : Env} {g : Heap} {L cS cM ro : Addr} {m : Str → Option Value} {mv : List (Addr × Obj)} {rs : Rw} {Q : Flow → Shared → Prop} (le : LE env L cS cM) (Bg : Base w g)
    (S : St g L m mv s.heap) (mR : m (Str.ofString "rows") = some (.ref ro)) (Dr : Rows w false g ro rs)
    (h : ∀ d g' h' tk, Le g g' → St g' L (updN m (Str.ofString "current") (.ref d)) mv h' → Ch [L] s.heap h' → Rows w true g' d rs → Q .next { s with heap := h', toks := tk }) :
    wpAny (model Pg w) A (exec (lst w.params 2) env) Q E s := by
  have he : lst w.params 2 = .Assign _ _ _ := rfl
  rw [he]
  clear he
  have B := S.base Bg
  refine wpAny_Assign_Name ?_ rfl
  refine Call_Name1 (nK le.ef B (le.g "immutabledict") (gName w.params).2.2.2.2.2.1 (cwK1 (w := w) (keepF_of 145 (by decide)) ?_) (by decide)) rfl
  refine Call_Name1 (nB le.ef B (le.g "dict") (notMine_of "dict" (by decide)) boots.2.2.2.1 (by decide) (cwT1 ?_)) rfl
  refine nL le.ef S (le.l "rows") mR ?_
  refine call_dict_D B (Dr.keeps S.keep) fun d₁ h₁ t₁ N₁ k₁ => ⟨B.keeps k₁, ?_⟩
  refine call_im_D (s := { s with heap := h₁, toks := _ }) (B.keeps k₁) N₁.rows fun d h₂ t₂ N k₂ => ?_
  have S₂ := (S.le k₁).le k₂
  refine sL' (s := { s with heap := h₂, toks := _ }) le.ef S₂ (le.l "current") fun h₃ S₃ c₃ => ?_
  obtain ⟨oL, _, _, hoL, _⟩ := (S.le k₁).ns
  have N₃ := N.ch c₃ (fun b hb => by rw [List.mem_singleton.mp hb]; exact ⟨_, hoL⟩)
  obtain ⟨g', S', k', fz⟩ := S₃.freeze
  exact h d g' h₃ _ k' S' (fun b o e n => c₃ _ _ (k₂ _ _ (k₁ _ _ e)) n) (N₃.frozen fz ⟨_, hoL⟩ fun p hp => ⟨_, ((S.le k₁).mv p hp).1⟩)

/-- stages = [(current, dict(rows))] -/
theorem law_stages {env : Env} {g : Heap} {L cS cM ro cu : Addr} {m : Str → Option Value} {mv : List (Addr × Obj)} {rs : Rw} {Q : Flow → Shared → Prop} (le : LE env L cS cM) (Bg : Base w g)
    (S : St g L m mv s.heap) (mR : m (Str.ofString "rows") = some (.ref ro)) (Dr : Rows w false g ro rs) (mC : m (Str.ofString "current") = some (.ref cu)) (Dc : Rows w true g cu rs)
    (h : ∀ stg oStg T g' h' tk, Le g g' → St g' L (updN m (Str.ofString "stages") (.ref stg)) ((stg, oStg) :: mv) h' → Ch [L] s.heap h' → LObj #[.ref T] oStg → StageAt w g' (.ref T) → (∀ p ∈ mv, p.1 ≠ stg) → Q .next { s with heap := h', toks := tk }) :
    wpAny (model Pg w) A (exec (lst w.params 3) env) Q E s := by
  have he : lst w.params 3 = .Assign _ _ _ := rfl
  rw [he]
  clear he
  have B := S.base Bg
  refine wpAny_Assign_Name ?_ rfl
  refine List_ ?_
  show wpAny _ _ (spliced [(false, _)]) _ _ _
  refine spliced_cons ?_
  rw [if_neg (by decide)]
  refine Tuple_ ?_
  show wpAny _ _ (spliced [(false, _), (false, _)]) _ _ _
  refine spliced_cons ?_
  rw [if_neg (by decide)]
  refine nL le.ef S (le.l "current") mC (spliced_cons ?_)
  rw [if_neg (by decide)]
  refine Call_Name1 (nB le.ef B (le.g "dict") (notMine_of "dict" (by decide)) boots.2.2.2.1 (by decide) (cwT1 ?_)) rfl
  refine nL le.ef S (le.l "rows") mR ?_
  refine call_dict_D B (Dr.keeps S.keep) fun d h₁ t₁ N k₁ => spliced_nil ?_
  have S₁ := S.le k₁
  refine wpAny_newTuple ?_ (by rw [sizeLine_eq]; simp)
  have k₂ := Le.push h₁ { cls := .type "tuple", data := .seq [Value.ref cu, Value.ref d].toArray }
  have e₂ : (h₁.push { cls := .type "tuple", data := .seq [Value.ref cu, Value.ref d].toArray }).get? h₁.objs.size = some { cls := .type "tuple", data := .seq [Value.ref cu, Value.ref d].toArray } := Heap.get?_push_size _ rfl
  have f₁ : h₁.get? h₁.objs.size = none := get_none_ge (Nat.le_refl _)
  dsimp only
  generalize h₁.push { cls := .type "tuple", data := .seq [Value.ref cu, Value.ref d].toArray } = h₂ at *
  generalize h₁.objs.size = T at *
  refine spliced_nil ?_
  refine wpAny_newObj_type ?_
  have S₂ := S₁.le k₂
  have k₃ := Le.push h₂ { cls := .type "list", data := .seq [Value.ref T].toArray }
  have e₃ : (h₂.push { cls := .type "list", data := .seq [Value.ref T].toArray }).get? h₂.objs.size = some { cls := .type "list", data := .seq [Value.ref T].toArray } := Heap.get?_push_size _ rfl
  have f₂ : h₂.get? h₂.objs.size = none := get_none_ge (Nat.le_refl _)
  dsimp only
  generalize h₂.push { cls := .type "list", data := .seq [Value.ref T].toArray } = h₃ at *
  generalize h₂.objs.size = stg at *
  have S₃ := S₂.le k₃
  refine sL' (s := { s with heap := h₃, toks := _ }) le.ef S₃ (le.l "stages") fun h₄ S₄ c₄ => ?_
  obtain ⟨oL, _, _, hoL, _⟩ := S.ns
  have N₄ : NewR w false s.heap h₄ d rs := ((N.keeps k₂).keeps k₃).ch c₄ (fun b hb => by rw [List.mem_singleton.mp hb]; exact ⟨_, hoL⟩)
  have TL : T ≠ L := S₁.ne f₁
  have sL : stg ≠ L := S₂.ne f₂
  have Tst : T ≠ stg := fun q => by rw [q, f₂] at e₂; cases e₂
  have S₅ := S₄.add (c₄ _ _ e₃ (by simpa using sL)) sL (S₂.none f₂)
  obtain ⟨g', S', k', fz⟩ := S₅.freeze
  have nstg : ∀ p ∈ mv, p.1 ≠ stg := S₂.neMut f₂
  have Rd : Rows w false g' d rs := by
    obtain ⟨gn, k, n, R⟩ := N
    refine R.keeps fun b o e => fz b o (c₄ _ _ (k₃ _ _ (k₂ _ _ (k _ _ e))) ?_) ?_ ?_
    · intro q
      rw [List.mem_singleton.mp q, n _ _ hoL] at e; cases e
    · intro q; rw [q, n _ _ hoL] at e; cases e
    · intro p hp q
      rcases List.mem_cons.mp hp with rfl | hp
      · have := k₂ _ _ (k _ _ e)
        rw [← q, f₂] at this; cases this
      · rw [← q, n _ _ (S.mv p hp).1] at e; cases e
  have eT : g'.get? T = some { cls := .type "tuple", data := .seq [Value.ref cu, Value.ref d].toArray } := by
    refine fz _ _ (c₄ _ _ (k₃ _ _ e₂) (by simpa using TL)) TL fun p hp q => ?_
    rcases List.mem_cons.mp hp with rfl | hp
    · exact Tst q.symm
    · exact S₁.neMut f₁ p hp q
  exact h stg _ T g' h₄ _ k' S' (fun b o e n => c₄ _ _ (k₃ _ _ (k₂ _ _ (k₁ _ _ e))) n) ⟨_, rfl⟩ ⟨T, cu, d, rs, rfl, ⟨_, eT, rfl, _, rfl⟩, Dc.keeps k', Rd⟩ nstg
end
end Mine

set_option Elab.async false
set_option maxRecDepth 100000
set_option maxHeartbeats 8000000
set_option linter.unusedVariables false
open PySem PySem.W PyProof.Rows PySem.Calls
namespace Mine
section
variable {w : World} {A : Around} {E : Value → Shared → Prop} {s : Shared}

theorem law_all {env : Env} {g : Heap} {L cS cM l0 : Addr} {m : Str → Option Value} {oS oM : Obj} {v0 v1 : Option Value} {vs : List Value} {ns : List Int} {Q : Flow → Shared → Prop} (le : LE env L cS cM) (O : Ok A 9) (hfr : A.frames = some [env]) (Bg : Base w g)
    (S : St g L m [(cS, oS), (cM, oM)] s.heap) (ne : cS ≠ cM) (hoS : oS.data = .cell v0) (hoM : oM.data = .cell v1) (mSc : m (Str.ofString "script") = some (.ref l0)) (hl : g.IsList l0 vs.toArray) (hi : IntsAre vs ns) (hn : ns.length ≤ 63)
    (h : ∀ h' tk, Le g h' → Q (.ret (.bool true)) { s with heap := h', toks := tk }) :
    wpAny (model Pg w) A (execs (lawB w.params) env) Q E s := by
  have hb : lawB w.params = [lst w.params 0, lst w.params 1, lst w.params 2, lst w.params 3, lst w.params 4, lst w.params 5] := rfl
  rw [hb]
  clear hb
  refine wpAny_execs_cons (law_state le S ne hoS mSc hl hi hn fun l st oS₁ oSt₁ g₁ h₁ tk₁ k₁ S₁ d₁ X₁ hlg₁ nS nM => ?_)
  refine wpAny_execs_cons (law_rows (s := { s with heap := h₁, toks := tk₁ }) le O (Bg.keeps k₁) ne nS nM S₁ X₁ hlg₁ d₁ fun ro rs oSt₂ g₂ h₂ tk₂ k₂ S₂ X₂ D₂ => ?_)
  have hlg₂ : ∃ o, g₂.get? l = some o := let ⟨o, e⟩ := hlg₁; ⟨o, k₂ _ _ e⟩
  have B₂ := (Bg.keeps k₁).keeps k₂
  refine wpAny_execs_cons (law_cur (s := { s with heap := h₂, toks := tk₂ }) le B₂ S₂ updN_eq D₂ fun cu g₃ h₃ tk₃ k₃ S₃ c₃ D₃ => ?_)
  have B₃ := B₂.keeps k₃
  refine wpAny_execs_cons (law_stages (s := { s with heap := h₃, toks := tk₃ }) le B₃ S₃ (updN_ne updN_eq) (D₂.keeps k₃) updN_eq D₃ fun stg oStg T g₄ h₄ tk₄ k₄ S₄ c₄ lo sa nstg => ?_)
  have B₄ := B₃.keeps k₄
  have k24 : Le g₂ g₄ := fun b o e => k₄ _ _ (k₃ _ _ e)
  have hlg₄ : ∃ o, g₄.get? l = some o := let ⟨o, e⟩ := hlg₂; ⟨o, k24 _ _ e⟩
  have mt : ∀ {o}, (st, oSt₂) ∈ [(stg, o), (cS, oS₁), (cM, oM), (st, oSt₂)] := .tail _ (.tail _ (.tail _ (.head _)))
  have X₄ : StNow h₄ st l := X₂.by (S₂.mv (st, oSt₂) (.tail _ (.tail _ (.head _)))).1 (S₄.mv (st, oSt₂) mt).1 (g := g₂) hlg₂ S₂.keep (fun b o e => S₄.keep _ _ (k24 _ _ e))
  have S₅ : St g₄ L _ [(cS, oS₁), (cM, oM), (st, oSt₂), (stg, oStg)] h₄ := S₄.sub fun p hp => by
    simp only [List.mem_cons, List.not_mem_nil, or_false] at hp ⊢
    rcases hp with rfl | rfl | rfl | rfl <;> simp
  have d4 : D4 cS cM st stg := ⟨ne, nS, nstg (cS, oS₁) (.head _), nM, nstg (cM, oM) (.tail _ (.head _)), nstg (st, oSt₂) (.tail _ (.tail _ (.head _)))⟩
  have F : LF w g₄ (updN (updN (updN m (Str.ofString "rows") (.ref ro)) (Str.ofString "current") (.ref cu)) (Str.ofString "stages") (.ref stg)) st l stg oS₁ oM oStg h₄ #[.ref T] 1 := ⟨X₄, d₁, ⟨v1, hoM⟩, ⟨cu, ro, rs, updN_ne updN_eq, updN_ne (updN_ne updN_eq), D₃.keeps k₄, D₂.keeps k24⟩, updN_eq, lo, rfl, fun v hv => by
    have : v = .ref T := by simpa using hv
    rw [this]; exact sa⟩
  refine wpAny_execs_cons (law_loop (s := { s with heap := h₄, toks := tk₄ }) le O hfr B₄ d4 S₅ F hlg₄ fun g₅ m₅ oM₅ oSt₅ oStg₅ items₅ n₅ h₅ tk₅ k₅ S₆ F₅ hn₅ => ?_)
  obtain ⟨nn, hlo⟩ := F₅.lo
  obtain ⟨g₆, S₇, k₆, hl₆⟩ : ∃ g₆, St g₆ L m₅ [] h₅ ∧ Le g₅ g₆ ∧ g₆.get? stg = some oStg₅ := by
    have Sx : St g₅ L m₅ [] h₅ := S₆.sub fun p hp => nomatch hp
    obtain ⟨g₆, S₇, k₆, fz⟩ := Sx.freeze
    have ms := S₆.mv (stg, oStg₅) (.tail _ (.tail _ (.tail _ (.head _))))
    exact ⟨g₆, S₇, k₆, fz _ _ ms.1 ms.2.1 fun p hp => nomatch hp⟩
  refine wpAny_execs_cons (law_end (s := { s with heap := h₅, toks := tk₅ }) le O ((B₄.keeps k₅).keeps k₆) S₇ F₅.mS ⟨oStg₅, hl₆, by rw [hlo], nn, by rw [hlo]⟩ (by rw [F₅.sz]; omega) (fun v hv => (F₅.it v hv).keeps k₆) fun h₆ tk₆ k₇ => ?_)
  exact h h₆ tk₆ fun b o e => k₇ _ _ (k₆ _ _ (k₅ _ _ (k₄ _ _ (k₃ _ _ (k₂ _ _ (k₁ _ _ e))))))
end
end Mine

set_option Elab.async false
set_option maxRecDepth 100000
set_option maxHeartbeats 8000000
set_option linter.unusedVariables false
open PySem PySem.W PyProof.Rows PySem.Calls
namespace Mine
theorem env_le (P : Params) (name : Str) (scope : Scope) (L a : Addr) (cd : Value) (hs : scope = (fdAt (hd.heap_39 P) 187).scope) : LE (envOfC name scope L a cd) L (L + 1) (L + 1 + 1) := by
  subst hs
  exact ⟨⟨by kernel_rfl, rfl, rfl, rfl⟩, rfl, by kernel_rfl, by kernel_rfl, by kernel_rfl, by kernel_rfl, by kernel_rfl, by kernel_rfl⟩
theorem ok_top (env : Env) : Ok (callerA.deeper env) 9 := ⟨by show callerA.depth + 1 + 4 * 9 < 600; decide, by show callerA.units + 3 + 40 * 9 < 5000; decide, rfl, rfl⟩
theorem bind_one {env : Env} {x : Str} {v : Value} (h : env.kindOf x = some .local) : bindL env.kindOf [(x, v)] (fun _ => none) x = some v := by
  unfold bindL bindL
  rw [if_pos h]
  exact if_pos rfl
end Mine

theorem PySem.Challenge.cw_bq5031_01_holds : PySem.Challenge.rw_bq5031_01.Holds := by
  exact Mine.hd (by
  k_go0
  rename_i w s₀ s₁ mg mb G Y fa o pm doc ho hg KX X V GL T B TE TW ia io M cda ca2 hcd ns hs hlay0 hL1 hr1 hl2 as1 as2 l0 vs as3 hL ra w1' r0 hI hr hc1 hc2 K0 hD h₁ tk₁ F w₁ w₀ d₁ d₀ N0 X0
  clear X0 hD hcd
  have N1 := N0 _ (.head _)
  have N2 := N0 _ (.tail _ (.head _))
  clear N0
  refine Mine.law_all (vs := vs) (ns := ns) (l0 := l0) (Mine.env_le w.params _ _ _ _ _ rfl) (Mine.ok_top _) rfl (Mine.base_of_top KX T) ⟨F.ns, F.keep, Mine.get_none_of_size _, ?_⟩ ?_ d₀ d₁ ?_ hL hI (by omega) ?_
  · intro p hp
    rcases List.mem_cons.mp hp with rfl | hp
    · exact N2
    · rw [List.mem_singleton.mp hp]; exact N1
  · exact Nat.ne_of_lt (Nat.lt_succ_self _)
  · exact Mine.bind_one rfl
  · intro h' tk k
    exact ⟨.inl ⟨_, _, [], rfl, fun _ => rfl, ReadsW.bool true, by wrow_post, fun _ => ⟨List.nodup_nil, fun _ hm => (nomatch hm)⟩⟩, k, rfl, hg⟩)
