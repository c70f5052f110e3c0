import PyProof.Rows.All
import Wide.All
import OpenK.AllK
import Wide.FinOn
import PySem.Challenge.RW_ic0001_02
open PySem PySem.W PyProof.Rows PySem.Calls
set_option Elab.async false
set_option maxRecDepth 100000
set_option linter.unusedVariables false
set_option linter.unusedSimpArgs false
set_option linter.deprecated false
namespace Mine

/-- the greatest -/
def mx : List Int → Int
  | [] => 0
  | a :: r => r.foldl max a

theorem le_foldl_max : ∀ (r : List Int) (a : Int), a ≤ r.foldl max a ∧ ∀ x ∈ r, x ≤ r.foldl max a
  | [], a => ⟨Int.le_refl _, fun x hx => nomatch hx⟩
  | b :: r, a => by
    obtain ⟨h1, h2⟩ := le_foldl_max r (max a b)
    simp only [List.foldl_cons]
    refine ⟨by omega, fun x hx => ?_⟩
    rcases List.mem_cons.mp hx with rfl | hx
    · omega
    · exact h2 x hx
theorem foldl_max_mem : ∀ (r : List Int) (a : Int), r.foldl max a = a ∨ r.foldl max a ∈ r
  | [], a => .inl rfl
  | b :: r, a => by
    simp only [List.foldl_cons, List.mem_cons]
    rcases foldl_max_mem r (max a b) with h | h
    · by_cases hab : a ≤ b
      · right; left; omega
      · left; omega
    · exact .inr (.inr h)
theorem le_mx {l : List Int} {x : Int} (h : x ∈ l) : x ≤ mx l := by
  cases l with
  | nil => cases h
  | cons a r =>
    obtain ⟨h1, h2⟩ := le_foldl_max r a
    rcases List.mem_cons.mp h with rfl | h
    · exact h1
    · exact h2 x h
theorem mx_mem {l : List Int} (h : 0 < l.length) : mx l ∈ l := by
  cases l with
  | nil => cases h
  | cons a r =>
    rcases foldl_max_mem r a with e | e
    · rw [show mx (a :: r) = a from e]; exact List.mem_cons_self
    · exact List.mem_cons_of_mem _ e
theorem mx_eq {l : List Int} {M : Int} (h : M ∈ l) (hM : ∀ a ∈ l, a ≤ M) : mx l = M := by
  have h1 := le_mx h
  have h2 := hM _ (mx_mem (List.length_pos_of_mem h))
  omega

section
variable {prog : Program} {w : World} {A : Around} {E : Value → Shared → Prop} {s : Shared} {h₀ : Heap} {L : Addr} {m : PySem.Str → Option Value} {news : List (Addr × Obj)} {b : Array UInt8} {t : Tok} {ks : List Int}

theorem ints_of_at : ∀ {vs : List Value} {ns : List Int}, vs.length = ns.length → (∀ j v, vs[j]? = some v → ∃ t, v = Value.int (ns.getD j 0) t) → IntsAre vs ns
  | [], [], _, _ => .nil
  | [], _ :: _, h, _ => nomatch h
  | _ :: _, [], h, _ => nomatch h
  | v :: vs, n :: ns, hl, h => by
    obtain ⟨t, rfl⟩ := h 0 v rfl
    exact .cons n t (ints_of_at (Nat.succ.inj hl) fun j v hv => h (j + 1) v hv)

theorem news_old (h' : Heap) {I : Addr} (hI : I = s.heap.objs.size) {o : Obj} (hk : ∀ b o', b ∉ [I] → (s.heap.push o).get? b = some o' → h'.get? b = some o') : ∀ b o', s.heap.get? b = some o' → h'.get? b = some o' :=
  fun b o' e => hk b o' (fun hm => by rw [List.mem_singleton.mp hm, hI] at e; exact absurd (Heap.lt_size e) (Nat.lt_irrefl _)) (Heap.get?_push_of_some _ e)

theorem max_bytes {Q : Value → Shared → Prop} (F : Fr h₀ L s.heap m) (N : News h₀ L s.heap news) (hh : A.handled = none) (hk : KBw.bInts b = ks) (hne : 0 < ks.length)
    (h : ∀ h' t' k, Fr h₀ L h' m → News h₀ L h' news → Q (.int (mx ks) t') { s with heap := h', toks := k }) : wpAny (model prog w) A (call (.builtin "max") [.bytes b t]) Q E s := by
  subst hk
  rw [KBw.ints_length] at hne
  have val : ∀ i v, (∃ c u, b[i]? = some c ∧ v = Value.int (c.toNat : Int) u) → ∃ t, v = .int ((KBw.bInts b).getD i 0) t := by
    rintro i v ⟨c, u, hc, rfl⟩
    refine ⟨u, ?_⟩
    rw [List.getD_eq_getElem?_getD, KBw.ints_get hc]; rfl
  refine call_max_walk (KBw.pyIter_bytes ?_)
  refine ⟨s.heap.objs.size, [s.heap.objs.size], [s.heap.objs.size], b.size, _, _, _, rfl, KBw.walks (A := A.in1) hh s.heap.objs.size b t, ⟨_, Heap.get?_push_size _ rfl, rfl, rfl⟩, ?_, hne, CmpOf.ints_gt (fun i => (KBw.bInts b).getD i 0) val, fun v h' tk hP hk' => ?_⟩
  · intro a ha
    rw [List.mem_singleton.mp ha]
    exact Heap.lt_size (Heap.get?_push_size _ rfl)
  · obtain ⟨t', rfl⟩ := val _ _ hP
    obtain ⟨h1, h2⟩ := argBest_gt (fun i => (KBw.bInts b).getD i 0) (b.size - 1)
    have e : (KBw.bInts b).getD (argBest (fun i j => decide ((KBw.bInts b).getD i 0 > (KBw.bInts b).getD j 0)) (b.size - 1)) 0 = mx (KBw.bInts b) := by
      refine (mx_eq (getD_mem (by rw [KBw.ints_length]; omega)) fun a ha => ?_).symm
      obtain ⟨j, hj, rfl⟩ := mem_getD ha
      rw [KBw.ints_length] at hj
      exact h2 j (by omega)
    have keep := news_old h' rfl hk'
    rw [e]
    exact h h' t' tk (F.keptAll keep) (N.grown keep)
end
namespace FB
theorem split_len : splitId "bytes.__len__" = some ("bytes", "__len__") := by decide +kernel
end FB
section
variable {prog : Program} {w : World} {A : Around} {E : Value → Shared → Prop} {s : Shared}

theorem extend_bytes {R : Result → Shared → Prop} {S : Addr} {c : Nat} {b : Array UInt8} {t : Tok} {res : Value} (hh : A.handled = none) (hz : b.size ≤ sizeLine) (hS : s.heap.get? S = some { cls := .type "list", data := .seq #[] c })
    (h : ∀ s' vs c', s'.gens = s.gens → s'.drawn = s.drawn → s'.os = s.os → (∀ a o, a ≠ S → s.heap.get? a = some o → s'.heap.get? a = some o) → s'.heap.get? S = some { cls := .type "list", data := .seq vs c' } →
      IntsAre vs.toList (KBw.bInts b) → R (.ok (.ret res)) s') :
    wpAny (model prog w) A.in1 (Builtin.List.listExtendWith (.ref S) (.bytes b t) res)
      (fun fin s' => match fin with | .done f => R (.ok f) s' | .again c' => c'.quiet = true ∧ codeAny (model prog w) A c' R s') (fun e s' => R (.error e) s') s := by
  unfold Builtin.List.listExtendWith
  refine wpAny_bind (wpAny_typeOf (typeIs_bytes _ b t) ?_)
  have h1 : Builtin.List.listSameRef (.ref S) (.bytes b t) = false := rfl
  have h2 : (Value.type "bytes" == Value.type "list") = false := by decide
  have h3 : (Value.type "bytes" == Value.type "tuple") = false := by decide
  simp only [h1, h2, h3, Bool.or_false, Bool.false_eq_true, if_false]
  refine wpAny_bind (KBw.pyIter_bytes ?_)
  refine wpAny_bind (wpAny_holding ?_)
  unfold Builtin.List.listLengthHint
  refine wpAny_bind (wpAny_specialOf (typeIs_bytes _ b t) FB.slot_bytes_len.lookup ?_)
  dsimp only
  rw [FB.split_len]
  dsimp only
  refine wpAny_bind (wpAny_isInstance (typeIs_bytes _ b t) F.sub_bytes_bytes ?_)
  refine bm_if_false rfl ?_
  refine bm_if_true (by decide +kernel) ?_
  refine wpAny_pure ?_
  refine bm_if_false (by decide +kernel) ?_
  have W := (KBw.walks (prog := prog) (w := w) (A := A.in1) hh s.heap.objs.size b t).toS
  have hlt : S < s.heap.objs.size := Heap.lt_size hS
  refine wpAny_pure ⟨plainId_quiet F.plain_extend_loop _, codeAny_extend_loopS W hz S (fun hm => absurd (List.mem_singleton.mp hm) (Nat.ne_of_lt hlt)) res b.size 0 _ _ _ rfl (Nat.zero_le _)
    ⟨_, Heap.get?_push_size _ rfl, rfl, rfl⟩ (Heap.get?_push_of_some _ hS) (ItemsOf.nil _) fun s' acc' c' hm hS' hacc => ?_⟩
  refine h s' acc' c' hm.gens hm.drawn hm.os (fun a o ha e => hm.heap a o (fun hq => ?_) (Heap.get?_push_of_some _ e)) hS' ?_
  · rcases List.mem_cons.mp hq with e1 | e1
    · exact ha e1
    · rw [List.mem_singleton.mp e1] at e
      exact absurd (Heap.lt_size e) (Nat.lt_irrefl _)
  · refine ints_of_at (by rw [Array.length_toList, hacc.1, KBw.ints_length]) fun j v hv => ?_
    obtain ⟨c, u, hc, rfl⟩ := hacc.2 j v (by rw [← Array.getElem?_toList]; exact hv)
    refine ⟨u, ?_⟩
    rw [List.getD_eq_getElem?_getD, KBw.ints_get hc]; rfl
end

section
variable {prog : Program} {w : World} {A : Around} {E : Value → Shared → Prop} {s : Shared} {h₀ : Heap} {L : Addr} {m : PySem.Str → Option Value} {news : List (Addr × Obj)} {b : Array UInt8} {t : Tok} {ks : List Int}

theorem shared_eq {s s' : Shared} (h1 : s'.gens = s.gens) (h2 : s'.drawn = s.drawn) (h3 : s'.os = s.os) : s' = { s with heap := s'.heap, toks := s'.toks } := by
  cases s; cases s'; simp_all

theorem list_bytes {Q : Value → Shared → Prop} (hF : Fr h₀ L s.heap m) (hN : News h₀ L s.heap news) (hh : A.handled = none) (hk : KBw.bInts b = ks) (hz : ks.length ≤ 16777216)
    (h : ∀ D vs c h' k, Fr h₀ L h' m → News h₀ L h' ((D, PySem.W.listOf vs c) :: news) → (∀ q ∈ news, q.1 < D) → IntsAre vs.toList ks → Q (.ref D) { s with heap := h', toks := k }) :
    wpAny (model prog w) A (call (.type "list") [.bytes b t]) Q E s := by
  have hz' : b.size ≤ sizeLine := by rw [sizeLine_eq, ← KBw.ints_length, hk]; exact hz
  refine callType_codes (Q₁ := fun obj s₁ => obj = .ref s.heap.objs.size ∧ s₁ = { s with heap := s.heap.push { cls := .type "list", data := .seq #[] } }) F.called_list (F.typeCall_list_1 _) PySem.F.entry_list_init
    (code_list_new _ ⟨rfl, rfl⟩) fun obj s₁ h₁ => ?_
  obtain ⟨rfl, rfl⟩ := h₁
  have hS : (s.heap.push { cls := .type "list", data := .seq #[] }).get? s.heap.objs.size = some { cls := .type "list", data := .seq #[] } := Heap.get?_push_size _ rfl
  refine ⟨⟨_, hS, rfl⟩, PySem.F.args_list_init_2 _ _, ?_⟩
  show wpAny _ A.in1.in1 (do let old ← Builtin.List.listItems (.ref s.heap.objs.size); Builtin.List.listUpdate (.ref s.heap.objs.size) (fun _ => #[]); letGo old.toList.reverse; Builtin.List.listExtendWith (.ref s.heap.objs.size) (.bytes b t) .none) _ _ _
  refine wpAny_bind ?_
  unfold Builtin.List.listItems
  refine wpAny_bind (wpAny_seqItems hS rfl (wpAny_pure ?_))
  refine wpAny_bind (wpAny_updateSeq hS rfl ?_)
  have hS₂ := Heap.get?_update_self (Obj.mapSeq (fun _ => (#[] : Array Value))) hS rfl
  have oth : ∀ b o, b ≠ s.heap.objs.size → (s.heap.push { cls := .type "list", data := .seq #[] }).get? b = some o → ((s.heap.push { cls := .type "list", data := .seq #[] }).update s.heap.objs.size (Obj.mapSeq (fun _ => (#[] : Array Value)))).get? b = some o :=
    fun b o hb e => (Heap.get?_update_other _ _ (Ne.symm hb)).trans e
  refine wpAny_bind (wpAny_letGo ?_)
  refine extend_bytes (A := A.in1) hh hz' hS₂ fun s' vs c' e1 e2 e3 hk' hS' hI => ⟨rfl, ?_⟩
  have keep : ∀ a o, s.heap.get? a = some o → s'.heap.get? a = some o := fun a o e => hk' a o (Nat.ne_of_lt (Heap.lt_size e)) (oth a o (Nat.ne_of_lt (Heap.lt_size e)) (Heap.get?_push_of_some _ e))
  rw [shared_eq (s := s) (s' := s') e1 e2 e3]
  exact h _ vs c' s'.heap s'.toks (hF.kept keep) (News.kept_cons hF hN keep (Nat.le_refl _) hS') (fun p hp => Heap.lt_size (hN p hp).1) (hk ▸ hI)

def Coll (s : Shared) (ks : List Int) (r : Result) (s' : Shared) : Prop := ∃ vs c', r = .ok (.ret (.ref s.heap.objs.size)) ∧ s' = { s with heap := s'.heap, toks := s'.toks } ∧
      s'.heap.get? s.heap.objs.size = some { cls := .type "list", data := .seq vs c' } ∧ (∀ a o, s.heap.get? a = some o → s'.heap.get? a = some o) ∧ IntsAre vs.toList ks
theorem collect_bytes {Q : List Value → Shared → Prop} (hh : A.handled = none) (hk : KBw.bInts b = ks) (hz : ks.length ≤ 16777216)
    (h : ∀ vs h' k, IntsAre vs ks → (∀ a o, s.heap.get? a = some o → h'.get? a = some o) → Q vs { s with heap := h', toks := k }) :
    wpAny (model prog w) A (collect (.bytes b t)) Q E s := by
  have hz' : b.size ≤ sizeLine := by rw [sizeLine_eq, ← KBw.ints_length, hk]; exact hz
  have main : codeAny (model prog w) A (.builtin "proto.collect" ⟨[.bytes b t], []⟩) (Coll s ks) s := by
    refine codeAny_builtin PySem.F.entry_proto_collect ?_
    rw [Around.under_plainId PySem.F.plain_proto_collect _]
    show wpAny _ A.in1 (newList [] >>= fun l => again (.builtin "list.__iadd__" ⟨[l, .bytes b t], []⟩)) _ _ s
    refine wpAny_bind (wpAny_newObj_type ?_)
    refine wpAny_pure ⟨plainId_quiet PySem.F.plain_list_iadd _, codeAny_builtin PySem.F.entry_list_iadd ?_⟩
    rw [Around.under_plainId PySem.F.plain_list_iadd _]
    show wpAny _ A.in1 (Builtin.List.listExtendWith (.ref s.heap.objs.size) (.bytes b t) (.ref s.heap.objs.size)) _ _ _
    have hS : (s.heap.push { cls := .type "list", data := .seq ([] : List Value).toArray }).get? s.heap.objs.size = some { cls := .type "list", data := .seq #[] } := Heap.get?_push_size _ rfl
    refine extend_bytes (R := Coll s ks) (s := { s with heap := s.heap.push { cls := .type "list", data := .seq ([] : List Value).toArray } }) hh hz' hS fun s' vs c' e1 e2 e3 hk' hS' hI => ?_
    exact ⟨vs, c', rfl, shared_eq e1 e2 e3, hS', fun a o e => hk' a o (Nat.ne_of_lt (Heap.lt_size e)) (Heap.get?_push_of_some _ e), hk ▸ hI⟩
  unfold collect
  refine wpAny_bind (wpAny_runValue (codeAny_mono main fun r s' hr => ?_))
  obtain ⟨vs, c', rfl, es, hS', keep, hI⟩ := hr
  refine wpAny_bind (wpAny_load hS' ?_)
  refine wpAny_pure ?_
  rw [es]
  exact h _ s'.heap s'.toks hI keep

theorem sorted_bytes {Q : Value → Shared → Prop} (hF : Fr h₀ L s.heap m) (hN : News h₀ L s.heap news) (hh : A.handled = none) (hk : KBw.bInts b = ks) (hz : ks.length < 64)
    (h : ∀ D vs ns' c h' k, Fr h₀ L h' m → News h₀ L h' ((D, PySem.W.listOf vs c) :: news) → (∀ q ∈ news, q.1 < D) → IntsAre vs.toList ns' → ns'.Perm ks → ns'.Pairwise (· ≤ ·) → Q (.ref D) { s with heap := h', toks := k }) :
    wpAny (model prog w) A (call (.builtin "sorted") [.bytes b t]) Q E s := by
  refine Calls.call_function_entry kind_sorted plain_sorted entry_sorted (args_sorted1 _) ?_
  unfold Builtin.«sorted»
  refine wpAny_bind (m := checkCount "sorted" 1 1 _) (wpAny_pure ?_)
  refine wpAny_bind (collect_bytes hh hk (by omega) fun vs h₁ k₁ hI keep => ?_)
  refine wpAny_bind (wpAny_newList ?_ (by rw [sizeLine_eq, hI.length]; omega))
  have hoL : (h₁.push (seqObj "list" vs.toArray 0)).get? h₁.objs.size = some (seqObj "list" vs.toArray 0) := Heap.get?_push_size _ rfl
  refine wpAny_bind (wpAny_holding (wpAny_call_entry slot_list_sort ⟨_, hoL, rfl⟩ entry_list_sort (list_sort_tree hoL hI (by rw [hI.length]; exact hz) fun out ns' a1 a2 a3 => ⟨_, rfl, ?_⟩) (args_list_sort _)))
  obtain ⟨e, he⟩ := sortedHeap_at (out := out) hoL
  have hlt : ∀ a o, s.heap.get? a = some o → a < h₁.objs.size := fun a o q => Heap.lt_size (keep a o q)
  have keep' : ∀ a o, s.heap.get? a = some o → (sortedHeap (h₁.push (seqObj "list" vs.toArray 0)) h₁.objs.size vs out).get? a = some o := fun a o q => by
    rw [sortedHeap_old (Nat.ne_of_lt (hlt a o q)) (by rw [size_push']; exact Nat.lt_succ_of_lt (hlt a o q))]
    exact Heap.get?_push_of_some _ (keep a o q)
  have N' : News h₀ L (sortedHeap (h₁.push (seqObj "list" vs.toArray 0)) h₁.objs.size vs out) ((h₁.objs.size, PySem.W.listOf out e) :: news) := by
    obtain ⟨oL, _, _, hL, _⟩ := hF.ns
    intro p hp
    rcases List.mem_cons.mp hp with rfl | hp
    · refine ⟨he, Nat.ne_of_gt (hlt L oL hL), ?_⟩
      cases hq : h₀.get? h₁.objs.size with
      | none => rfl
      | some o' => exact absurd (hlt _ _ (hF.keep _ _ hq)) (Nat.lt_irrefl _)
    · exact ⟨keep' _ _ (hN p hp).1, (hN p hp).2.1, (hN p hp).2.2⟩
  exact wpAny_pure ⟨_, rfl, h _ out ns' e _ _ (hF.kept keep') N' (fun p hp => hlt _ _ (hN p hp).1) a1 a2 a3⟩
end

/-- the next ring -/
def nxt (ks : List Int) : List Int := (List.range ks.length).map fun k => ((ks.getD k 0 - ks.getD ((k + 1) % ks.length) 0).natAbs : Int)
/-- steps to noughts, at most so many -/
def stepsTo : Nat → List Int → Nat
  | 0, _ => 0
  | n + 1, ks => if 0 < mx ks then stepsTo n (nxt ks) + 1 else 0

theorem nxt_length (ks : List Int) : (nxt ks).length = ks.length := by simp [nxt]

theorem bInts_in {x : Array UInt8} {ks : List Int} (h : KBw.bInts x = ks) : KBa.In ks := by
  subst h; intro n hn; exact KBw.ints_in hn

theorem next_eq {ks : List Int} (hr : KBa.In ks) (hx : 0 < ks.length) : ((rangeKs 0 (↑ks.length - 0 : Int).toNat).map fun k' =>
      if 0 ≤ ks.getD k'.toNat 0 ∧ ks.getD k'.toNat 0 < 256 ∧ 0 ≤ ks.getD ((k' + 1).fmod ↑ks.length).toNat 0 ∧ ks.getD ((k' + 1).fmod ↑ks.length).toNat 0 < 256 then
        if ks.getD k'.toNat 0 - ks.getD ((k' + 1).fmod ↑ks.length).toNat 0 < 0 then -(ks.getD k'.toNat 0 - ks.getD ((k' + 1).fmod ↑ks.length).toNat 0) else (ks.getD k'.toNat 0 - ks.getD ((k' + 1).fmod ↑ks.length).toNat 0)
      else k') = nxt ks := by
  have e : (↑ks.length - 0 : Int).toNat = ks.length := by omega
  rw [e]
  unfold rangeKs nxt
  rw [List.map_map]
  refine List.map_congr_left fun k hk => ?_
  have h1 := KBw.getD_in (j := k) hr
  have h2 := KBw.getD_in (j := (k + 1) % ks.length) hr
  have e1 : ((0 : Int) + (k : Int)).toNat = k := by omega
  have e2 : (((0 : Int) + (k : Int) + 1).fmod (ks.length : Int)).toNat = (k + 1) % ks.length := by
    rw [Int.fmod_eq_emod_of_nonneg _ (by omega), show ((0 : Int) + (k : Int) + 1) = ((k + 1 : Nat) : Int) by omega, ← Int.natCast_emod]
    rfl
  simp only [Function.comp, e1, e2]
  rw [if_pos ⟨h1.1, h1.2, h2.1, h2.2⟩]
  split <;> omega

section
open PySem.Sem (wp)

/-- the codes that a bytearray's __init__ looks for on the stack -/
def lends : Code → Bool
  | .builtin id _ => Builtin.Bytes.decodersThatHold.contains id || ["bytearray.__contains__", "bytearray.__mod__", "bytearray.__rmod__", "_struct.pack_into.held", "bytearray.find.held"].contains id
  | _ => false
def CleanL (l : List (Code × Pos)) : Prop := ∀ x ∈ l, lends x.1 = false
def Clean (Γ : Ctx) : Prop := lends Γ.code = false ∧ CleanL Γ.below

def wpP {α : Type} (M : Model) (A : Around) (t : Sem α) (Q : α → Shared → Prop) (E : Value → Shared → Prop) (s : Shared) : Prop :=
  ∀ Γ p, Γ.In A → Clean Γ → wp M Γ t (fun a _ s' => Q a s') (fun e _ s' => E e s') p s
def codeP (M : Model) (A : Around) (c : Code) (R : Result → Shared → Prop) (s : Shared) : Prop :=
  ∀ Γ p, Γ.code = c → Γ.Below A → CleanL Γ.below → wpCode M Γ R p s

section
variable {α β : Type} {M : Model} {A : Around} {E : Value → Shared → Prop} {s : Shared}

theorem wpP_any {t : Sem α} {Q : α → Shared → Prop} (h : wpAny M A t Q E s) : wpP M A t Q E s := fun Γ p hΓ _ => h Γ p hΓ
theorem codeP_any {c : Code} {R : Result → Shared → Prop} (h : codeAny M A c R s) : codeP M A c R s := fun Γ p hc hΓ _ => h Γ p hc hΓ
theorem wpP_pure {a : α} {Q : α → Shared → Prop} (h : Q a s) : wpP M A (pure a) Q E s := fun _ _ _ _ => h
theorem wpP_mono {t : Sem α} {Q Q' : α → Shared → Prop} {E' : Value → Shared → Prop} (h : wpP M A t Q E s)
    (hQ : ∀ a s, Q a s → Q' a s) (hE : ∀ e s, E e s → E' e s) : wpP M A t Q' E' s :=
  fun Γ p hΓ hc => Sem.wp_mono M Γ t (fun a _ s => hQ a s) (fun e _ s => hE e s) p s (h Γ p hΓ hc)
theorem wpP_bind {m : Sem α} {f : α → Sem β} {Q : β → Shared → Prop} (h : wpP M A m (fun a s' => wpP M A (f a) Q E s') E s) :
    wpP M A (m >>= f) Q E s := fun Γ p hΓ hc => by
  rw [Sem.wp_bind']
  exact Sem.wp_mono M Γ m (fun a p' s' h' => h' Γ p' hΓ hc) (fun _ _ _ h' => h') p s (h Γ p hΓ hc)
theorem wpP_then {m : Sem α} {f : α → Sem β} {Q : β → Shared → Prop} (h : wpAny M A m (fun a s' => wpP M A (f a) Q E s') E s) :
    wpP M A (m >>= f) Q E s := wpP_bind (wpP_any h)
theorem wpP_holding {vs : List Value} {m : Sem α} {Q : α → Shared → Prop} (h : wpP M A m Q E s) : wpP M A (holding vs m) Q E s :=
  fun Γ p hΓ hc => by rw [Sem.wp_holding]; exact h Γ p hΓ hc
theorem wpP_onRaise {m : Sem α} {k : Value → Sem Unit} {Q : α → Shared → Prop}
    (h : wpP M A m Q (fun e s' => wpAny M A (k e) (fun _ s'' => E e s'') E s') s) : wpP M A (m.onRaise k) Q E s := fun Γ p hΓ hc => by
  rw [Sem.wp_onRaise]
  exact Sem.wp_mono M Γ m (fun _ _ _ h' => h') (fun e p' s' h' => h' Γ p' hΓ) p s (h Γ p hΓ hc)
theorem codeP_mono {c : Code} {R R' : Result → Shared → Prop} (h : codeP M A c R s) (hR : ∀ r s, R r s → R' r s) : codeP M A c R' s :=
  fun Γ p hc hΓ hl => wpCode_mono hR (h Γ p hc hΓ hl)

theorem clean_below {Γ : Ctx} (h : Clean Γ) (c : Code) (hd : Option Value) (p : Pos) : CleanL (Γ.enter c hd p).below := by
  intro x hx
  rcases List.mem_cons.mp hx with rfl | hx
  · exact h.1
  · exact h.2 x hx

theorem wpP_runValue {c : Code} {Q : Value → Shared → Prop}
    (hc : codeP M A c (fun r s' => match r with | .ok (.ret v) => Q v s' | .ok _ => False | .error e => E e s') s) :
    wpP M A (runValue c) Q E s := fun Γ p hΓ hl => by rw [Sem.wp_runValue]; exact hc _ p rfl (hΓ.enter c none p (by intro x; cases x)) (clean_below hl c none p)
theorem wpP_run {c : Code} {h : Option Value} {Q : Flow → Shared → Prop}
    (hc : codeP M (A.mark h) c (fun r s' => match r with | .ok f => Q f s' | .error e => E e s') s) (hnb : h ≠ some byPass := by intro x; cases x) :
    wpP M A (run c h) Q E s :=
  fun Γ p hΓ hl => by rw [Sem.wp_run]; exact hc _ p rfl (hΓ.enter c h p hnb) (clean_below hl c h p)
theorem wpP_call {f : Value} {pos : List Value} {kw : List (Str × Value)} {Q : Value → Shared → Prop}
    (hc : codeP M A (.call f ⟨pos, kw⟩) (fun r s' => match r with | .ok (.ret v) => Q v s' | .ok _ => False | .error e => E e s') s) :
    wpP M A (call f pos kw) Q E s := wpP_runValue hc
theorem codeP_of_tree {c : Code} {R : Result → Shared → Prop} (hl : lends c = false)
    (h : wpP M (A.under c) (M.den c) (fun fin s' => match fin with | .done f => R (.ok f) s' | .again c' => c'.quiet = true ∧ codeP M A c' R s')
      (fun e s' => R (.error e) s') s) : codeP M A c R s := fun Γ p hc hΓ hb => by
  rw [wpCode_iff_wp, hc]
  refine Sem.wp_mono M Γ _ (fun fin p' s' h' => ?_) (fun _ _ _ h' => h') p s (h Γ p (hc ▸ hΓ.in) ⟨hc ▸ hl, hb⟩)
  cases fin with
  | done f => exact h'
  | again c' => exact ⟨h'.1, h'.2 (Γ.goto c') p' rfl (hΓ.goto c') hb⟩

/-- the stack bears none that lends self out -/
theorem wpP_exported {self : Value} {Q : Bool → Shared → Prop} (h : Q false s) : wpP M A (Builtin.Bytes.exported self) Q E s := fun Γ p _ hc => by
  have all : ∀ x ∈ ((Γ.code, p) :: Γ.below : List (Code × Pos)), lends x.1 = false := by
    intro x hx
    rcases List.mem_cons.mp hx with rfl | hx
    · exact hc.1
    · exact hc.2 x hx
  show Q (List.any ((Γ.code, p) :: Γ.below) _) s
  rw [List.any_eq_false.mpr ?_]
  · exact h
  rintro ⟨c, q⟩ hx
  have hx := all _ hx
  split
  all_goals first
    | exact Bool.false_ne_true
    | (rename_i heq; cases heq; simp [lends] at hx; done)
    | (rename_i heq; cases heq; simp only [lends, Bool.or_eq_false_iff] at hx; rw [hx.1, Bool.and_false]; exact Bool.false_ne_true)
end

end
section
open PySem.Sem (wp)

theorem threadP {prog : Program} {w : World} {t : Sem Fin} {s : Shared} {R : Result → Shared → Prop} (hreg : s.asleep)
    (h : wpP (model prog w) callerA t (fun fin s' => ∃ f, fin = .done f ∧ (R (.ok f) s' ∧ leftWithCleanup s'.gens = false)) (fun e s' => R (.error e) s' ∧ leftWithCleanup s'.gens = false) s) :
    ∃ n r s' s'', runN (denote table) prog w n s ⟨t, .builtin "claim.caller" {}, default, []⟩ = .halted (outcomeOf r) s' ∧
      schedN (denote table) prog w n (.single s ⟨t, .builtin "claim.caller" {}, default, []⟩) = .halted (outcomeOf r) s' ∧ s'.forget = s''.forget ∧ R r s'' := by
  have hw := h ⟨.builtin "claim.caller" {}, none, none, [], none⟩ default caller_in ⟨by decide +kernel, fun x hx => nomatch hx⟩
  obtain ⟨n, r, s₁, s₂, hs, hn, hfo, hR⟩ := wp_halts_full (M := model prog w) (R := R) hreg
    (Sem.wp_mono _ _ _ (fun fin _ _ x => by obtain ⟨f, rfl, hf⟩ := x; exact hf) (fun _ _ _ x => x) _ _ hw)
  exact ⟨n, r, s₂, s₁, hn, hs, hfo, hR⟩

abbrev WalkP (q : Program) (loose : List Str) (XP : (Str → Option Value) → Heap → Prop) (YP : World → Heap → Prop) (r : RowW) (d : DefRec) (kwd : List (Str × Expr)) (run : Value → List Value → Sem Value) : Prop :=
  ∀ (w : World) (s₀ s₁ : Shared) (mg mb : Str → Option Value), Ground q loose r.records XP w s₀ mg mb s₁.heap → YP w s₁.heap → ∀ (a : Addr) (o : Obj) (pm cd doc dV kV : Value), s₁.heap.get? a = some o →
    o.data = .func { docDef d.name d.params d.body d.scope pm cd doc with defaults := dV, kwdefaults := kV } → s₁.heap.CodeRec cd d.name → Dflts mg s₁.heap d.params kwd dV kV → mg d.name = some (.ref a) → s₁.gens = #[] →
    ∀ (args : List WData) (vals : List Value) (as : List Addr), r.claim.pre args = true → WData.layableAll args = true → ReadsAllW r.records (classAt s₀.heap) s₁.heap vals args as → WellAll w.params s₁.heap vals args → (∀ a ∈ as, (a == sysModules) = false) →
      wpP (model r.prog w) callerA (run (.ref a) vals) (fun v s' => GoodWG r.claim (classAt s₀.heap) (ExcName.means s₀.heap) args s₁ (.ok (.ret v)) s')
        (fun e s' => GoodWG r.claim (classAt s₀.heap) (ExcName.means s₀.heap) args s₁ (.error e) s') s₁

theorem PySem.W.holds_open {r : OpenRow} {q : Program} {loose : List Str} {Xt : Shared → Bool} {XP : (Str → Option Value) → Heap → Prop} {α : Type} {Yf : Shared → α} {Ya : World → α} {YP : World → Heap → Prop} {d : DefRec} {kwd : List (Str × Expr)} {N : Nat}
    (left : LeftO r.prog q loose Xt Yf Ya N) (hY : ∀ w s, Yf s = Ya w → YP w s.heap) (hYk : ∀ w h h', YP w h → (∀ b o, h.get? b = some o → h'.get? b = some o) → YP w h')
    (hX : ∀ s, Xt s = true → XP (s.heap.nsMap mainGlobals) s.heap) (hXk : ∀ mg h h', XP mg h → (∀ b o, h.get? b = some o → h'.get? b = some o) → XP mg h')
    (hdef : defOf q r.name = some (d, kwd)) (hp : r.prog.theDef r.name = some (d.params, d.body, d.scope)) (hk : kwWritten? d.params.kwonlyargs d.params.kw_defaults = some kwd) (hRf : ∀ s, Xt s = true → RecFacts r.records s.heap) (hwr : (!r.writes || r.records.isEmpty) = true)
    (k1 : r.wellSaid = true) (ok : (chainsOk q && opensWell r.prog && (frees r.toRowW && r.within.isEmpty)) = true) (hb : r.prog.bare) (hw : r.toRowW.promised)
    (call : WalkP q loose XP YP r.toRowW d kwd fun f vs => PySem.call f vs) : r.Holds := by
  refine ⟨k1, hw, ?_⟩
  obtain ⟨ok, k5⟩ := Bool.and_eq_true_iff.mp ok
  obtain ⟨hch, o1⟩ := Bool.and_eq_true_iff.mp ok
  obtain ⟨k5, k6⟩ := Bool.and_eq_true_iff.mp k5
  obtain ⟨hsame, hu, ha, hap, hm⟩ := frees_parts k5
  refine ⟨⟨hb, o1, by show r.makers.map _ = []; rw [hm]; rfl⟩, hw.witness, fun w => ⟨(left.behind hX hch w).1, fun s' hs' => ?_⟩⟩
  obtain ⟨s₀, hf, hg0, s, hT, hz, hgens, hg, G00, y⟩ := (left.behind (XP := fun mg h => XP mg h ∧ RecFacts r.records h) (fun s hs => ⟨hX s hs, hRf s hs⟩) hch w).2 s' hs'
  have G0 : Ground q loose [] XP w s (s.heap.nsMap mainGlobals) (s.heap.nsMap builtinsNs) s.heap := ⟨G00.T, G00.B, G00.D, G00.TE, G00.TD, G00.W, G00.X.1, G00.cls, G00.has, G00.apart, G00.once, G00.K⟩
  have RF := G00.X.2
  have hT' := hT
  refine ⟨s₀, hf, hg0, s, hT, fun n hn => ?_, RF.1, RF.2.1, ?_⟩
  · obtain rfl : n = r.name := by split at hn <;> simp_all
    exact pinned_of_view hg G0 hdef hp hk
  have hgens : s.gens = #[] := Array.eq_empty_of_size_eq_zero (beq_iff_eq.mp hgens)
  have G : Ground q loose r.records XP w s _ _ s.heap := RF.ground G0
  intro args hpre hlay ord hord
  obtain ⟨⟨vs, s₁⟩, hlaid⟩ := Option.isSome_iff_exists.mp (layAllW_isSome (P := w.params) (ord := ord) G.has args r.args s (pre_splitW hpre).1)
  have keeps := layAllW_keeps _ _ _ hlaid
  have hal := layAllW_rest _ _ _ hlaid
  obtain ⟨as, hrd, hin, hold⟩ := reads_layAllW hord _ _ _ hlaid hlay s₁.heap (fun _ _ e => e)
  have L : Laid r.records w s s₁ args vs as := ⟨⟨ord, hord, hlaid⟩, hrd, hin, hold, keeps, hal.1.trans hgens, hal.2.2.1⟩
  have G₁ := G.keeps hXk keeps
  obtain ⟨a, o, pm, cd, doc, dV, kV, h1, h2, h3, h4, h5⟩ := G₁.fn hdef
  have h := call w s s₁ _ _ G₁ (hYk _ _ _ (hY w s y) keeps) a o pm cd doc dV kV h2 h3 h4 h5 (defOf_name hdef ▸ h1) L.gens args vs as hpre hlay L.reads L.well (L.low G.low)
  have hi := ident_freeW hu ha hap
  have hwi : r.claim.within = [] := List.isEmpty_iff.mp k6
  have fin : ∀ res s', GoodWG r.claim (classAt s.heap) (ExcName.means s.heap) args s₁ res s' → r.claim.Ends s args vs s₁ res s' ∧ s'.os = s.os ∧ AllBare s'.gens ∧
      (r.writes = true → namesKept r.prog r.keeps s.heap s'.heap ∧ ∀ x ∈ r.records, ∀ a, classAt s.heap x.1 = some a → recordClass s'.heap a x.1 (x.2.map (·.1)) = true) := fun res s' g =>
    have z := g.laid (c := r.claim) hsame hwi hi L
    ⟨z.1, z.2.1, z.2.2, fun q => ⟨namesKept_of hT' hg r.keeps keeps g.2.1.old, noTable hwr q⟩⟩
  obtain ⟨k, res, s2, s3, hrun, hsched, hfo, hR⟩ := threadP (prog := r.prog) (w := w) (s := s₁)
    (t := do match ← nsGet mainNs r.name with
      | some f => do ret (← PySem.call f vs)
      | none => unsupported "claim.caller:no-such-global")
    (R := fun res s' => r.claim.Ends s args vs s₁ res s' ∧ s'.os = s.os ∧
      (r.writes = true → namesKept r.prog r.keeps s.heap s'.heap ∧ ∀ x ∈ r.records, ∀ a, classAt s.heap x.1 = some a → recordClass s'.heap a x.1 (x.2.map (·.1)) = true))
    (Shared.asleep_of_life hal.2.2.2 hz) (by
      refine wpP_then (wpAny_nsGet G₁.T.g ?_)
      rw [h1]
      refine wpP_bind (wpP_mono h (fun v s' g => ?_) (fun e s' g => ?_))
      · have z := fin _ _ g
        exact wpP_pure ⟨_, rfl, ⟨z.1, z.2.1, z.2.2.2⟩, leftWithCleanup_false_of_bare z.2.2.1⟩
      · have z := fin _ _ g
        exact ⟨⟨z.1, z.2.1, z.2.2.2⟩, leftWithCleanup_false_of_bare z.2.2.1⟩)
  obtain ⟨hcase, hos, hkp⟩ := hR
  obtain ⟨eh, _, _, eo, _⟩ := Shared.forget_eq hfo
  have hcase := hcase.congr eh
  rw [← eo] at hos
  rw [← eh] at hkp
  have hlife : s2.heap.life = s.heap.life := (runN_life _ _ _ hrun).trans hal.2.2.2
  refine ⟨vs, s₁, hlaid, k, _, s2, hsched, ?_, (fun _ i x hx => by rw [hgens] at hx; simp at hx), hkp, by rw [hlife], Shared.rest_eq hos⟩
  rcases hcase with ⟨v, rfl, d1, d2, d3, d4, d5⟩ | ⟨e, ob, cls, rfl, d1, d2, d3, d4, d5⟩
  · exact .inl ⟨v, rfl, d1, d2, d3, fun b o y _ => d4 b o y, d5⟩
  · exact .inr ⟨e, ob, cls, rfl, d1, d2, d3, d4, fun b o y _ => d5 b o y⟩

end
set_option maxRecDepth 100000 in
set_option maxHeartbeats 8000000 in
open_top hd for PySem.Challenge.rw_ic0001_02

abbrev Ext (h h' : Heap) : Prop := ∀ b o, h.get? b = some o → h'.get? b = some o
abbrev around (dp un : Nat) (fr : Option (List Env)) (gd : Option (List Code)) : Around := { handled := none, depth := dp, frames := fr, guards := gd, units := un }

/-- a call that leaves all that stood as it stood -/
def Tells (prog : Program) (w : World) (K : Frag) (p : Program) (loose : List Str) (mean : ExcName → Option Value) (mg mb : Str → Option Value) (f : Addr) (d u : Nat) (vs : List Value) (pre : Heap → Prop) (R : Heap → Value → Prop) : Prop :=
  ∀ (dp un : Nat) (fr : Option (List Env)) (gd : Option (List Code)) (s : Shared) (Q E : Value → Shared → Prop),
    K.In s.heap → Top p loose mean mg mb s.heap → dp + d < recursionLimit → un + u < cLine → pre s.heap →
    (∀ r h' tk', Ext s.heap h' → R h' r → Q r { s with heap := h', toks := tk' }) →
    wpAny (model prog w) (around dp un fr gd) (call (.ref f) vs) Q E s

section
variable {prog : Program} {w : World} {A : Around} {s : Shared} {K : Frag} {E : Value → Shared → Prop} {Q : Value → Shared → Prop}
  {p : Program} {loose : List Str} {mean : ExcName → Option Value} {mg mb : Str → Option Value}
  {name qual : Str} {params : Arguments} {body : List Stmt} {scope : Scope} {dV kV doc pm cdv ct oc : Value} {an od : Option Addr} {osl : Array (Option Value)} {f : Addr} {vs : List Value} {kw : List (Str × Value)} {binds : List (Str × Value)}

def retOf : Flow → Value
  | .ret v => v
  | _ => .none

theorem enter (X : K.In s.heap) (T : Top p loose mean mg mb s.heap)
    (ho : K.lookup f = some ⟨oc, od, .func (fnOf name qual params body scope dV kV doc pm an cdv ct), osl⟩) (hcd : codeIn K cdv qual = true) (hroom : A.depth < recursionLimit)
    (hbind : BindsTo s (fnOf name qual params body scope dV kV doc pm an cdv ct) ⟨vs, kw⟩ binds) (hloc : ∀ y ∈ binds, scope.names.lookup y.1 = some .local)
    (hco : scope.isCoroutine = false) (hgen : scope.isGenerator = false) (hk : scope.kind = .function)
    (hcell : ∀ x ∈ scope.names, x.2 ≠ .cell)
    (h : ∀ h₁, Fr s.heap s.heap.objs.size h₁ (fun y => binds.reverse.lookup y) → News s.heap s.heap.objs.size h₁ [] →
      wpAny (model prog w) (A.deeper (envOf qual scope s.heap.objs.size f cdv)) (execs body (envOf qual scope s.heap.objs.size f cdv))
        (fun fl s' => Q (retOf fl) s') (fun _ _ => False) { s with heap := h₁, toks := s.toks + binds.length }) :
    wpAny (model prog w) A (call (.ref f) vs kw) Q E s := by
  refine wpAny_call (codeAny_call_def (fd := fnX name qual params body scope [] dV kV doc pm an cdv ct) (body := body) (binds := binds) hroom (X _ _ ho) rfl T.nolimit (codeRec_of X hcd) rfl hbind hcell hloc (fun h₁ hns hk₁ => ?_) hco hgen hk)
  exact wpAny_mono (h h₁ ⟨hns, hk₁, Nat.le_refl _⟩ News.nil) (fun fl s' hl => by cases fl <;> exact hl) (fun _ _ x => x.elim)

theorem enterC (X : K.In s.heap) (T : Top p loose mean mg mb s.heap)
    (ho : K.lookup f = some ⟨oc, od, .func (fnOf name qual params body scope dV kV doc pm an cdv ct), osl⟩) (hcd : codeIn K cdv qual = true) (hroom : A.depth < recursionLimit)
    (hbind : BindsTo s (fnOf name qual params body scope dV kV doc pm an cdv ct) ⟨vs, kw⟩ binds)
    (hkind : (binds.all fun y => scope.names.lookup y.1 == some .local || scope.names.lookup y.1 == some .cell) = true)
    (hnd : ((cellsFrom 0 scope.names []).map (·.1)).Nodup)
    (hco : scope.isCoroutine = false) (hgen : scope.isGenerator = false) (hk : scope.kind = .function)
    (h : ∀ h₁ tk cells, Fr s.heap s.heap.objs.size h₁ (bindL (envOfC qual scope s.heap.objs.size f cdv).kindOf binds fun _ => none) → News s.heap s.heap.objs.size h₁ cells →
      CellsAre (bindC (envOfC qual scope s.heap.objs.size f cdv).kindOf binds fun _ => none) (cellsFrom (s.heap.objs.size + 1) scope.names []) cells →
      wpAny (model prog w) (A.deeper (envOfC qual scope s.heap.objs.size f cdv)) (execs body (envOfC qual scope s.heap.objs.size f cdv))
        (fun fl s' => Q (retOf fl) s') (fun _ _ => False) { s with heap := h₁, toks := tk }) :
    wpAny (model prog w) A (call (.ref f) vs kw) Q E s := by
  refine wpAny_call (codeAny_call_function hroom (X _ _ ho) rfl hco hgen rfl (codeRec_of X hcd) (hbind _ _ _ _ ?_))
  refine wpAny_newFunctionEnv_cells hk (kindsX hkind _) fun env' he s' x => ?_
  subst he
  refine ⟨T.nolimit.keeps x.toInCall.keep, codeAny_func ?_⟩
  obtain ⟨h₁, tk, rfl, _⟩ := x.done
  obtain ⟨cells, NC, Y⟩ := Cl.news (h₀ := s.heap) (Nat.le_refl _) fun n c hm => ⟨x.cell n c (lookup_of_mem_nodup (cellsFrom_names scope.names 0 (s.heap.objs.size + 1) [] [] rfl ▸ hnd) hm), x.above n c hm⟩
  exact wpAny_mono (h h₁ tk cells ⟨x.toInCall.ns, x.toInCall.keep, Nat.le_refl _⟩ NC Y) (fun fl s' hl => by cases fl <;> exact hl) (fun _ _ x => x.elim)
end

namespace FA
theorem mro : mroOf (.type "bytearray") = pure [.type "bytearray", .type "object"] := by rw [mroOf_type]; kernel_rfl
theorem lookup_new : typeLookup (.type "bytearray") "__new__" = pure (some (.builtin "bytearray.__new__")) := by rw [typeLookup_type, builtinLookup_eq_fast]; kernel_rfl
theorem slot_init : Slot "bytearray" "__init__" "bytearray.__init__" :=
  .of (owner := "bytearray") (n := "__init__") (by rw [typeLookup_type, builtinLookup_eq_fast]; kernel_rfl) (by decide +kernel) (by decide +kernel) (by decide +kernel)
    (by first | exact .inl (by decide +kernel) | exact .inr (by decide +kernel)) (by rw [isSubtype_type]; kernel_rfl)
theorem called : TypeCalled "bytearray" "bytearray.__new__" "bytearray.__init__" :=
  ⟨by decide +kernel, by decide +kernel, ⟨_, _, mro⟩, madeBy_type mro lookup_new (by decide +kernel), by decide +kernel, by rw [isSubtype_type]; kernel_rfl, slot_init⟩
theorem typeCall (a : Value) : checkTypeCall "bytearray" ⟨[a], []⟩ = pure () := by kernel_rfl
theorem newCall (a : Value) : checkBuiltinCall "bytearray.__new__" ⟨[.type "bytearray", a], []⟩ = pure () := by kernel_rfl
theorem entry_new : entryFor table "bytearray.__new__" = some Builtin.«list.__new__» := entryFor_alias (id' := "list.__new__") (by kernel_rfl) (by decide +kernel) (by decide +kernel) (by kernel_rfl)
theorem plain_new : plainId "bytearray.__new__" = true := by decide +kernel
theorem entry_init : entryFor table "bytearray.__init__" = some Builtin.«bytearray.__init__» := by first | exact entryFor_of_fast (by kernel_rfl) | exact entryFor_of_tree (by kernel_rfl)
theorem plain_init : plainId "bytearray.__init__" = true := by decide +kernel
theorem args_init (a b : Value) : argsOk "bytearray.__init__" ⟨[a, b], []⟩ := by unfold argsOk; kernel_rfl
theorem sub_self : isSubtype (.type "bytearray") (.type "bytearray") = pure true := by rw [isSubtype_type]; kernel_rfl
theorem look_release : typeLookup (.type "bytearray") "__release_buffer__" = pure (some (.builtin "bytearray.__release_buffer__")) := by rw [typeLookup_type, builtinLookup_eq_fast]; kernel_rfl
theorem look_buffer : typeLookup (.type "bytearray") "__buffer__" = pure (some (.builtin "bytearray.__buffer__")) := by rw [typeLookup_type, builtinLookup_eq_fast]; kernel_rfl
theorem no_bytes : typeLookup (.type "bytearray") "__bytes__" = pure none := by rw [typeLookup_type, builtinLookup_eq_fast]; kernel_rfl
theorem noIndex : typeLookup (.type "bytearray") "__index__" = pure none := by rw [typeLookup_type, builtinLookup_eq_fast]; kernel_rfl
theorem slot_set : Slot "bytearray" "__setitem__" "bytearray.__setitem__" :=
  .of (owner := "bytearray") (n := "__setitem__") (by rw [typeLookup_type, builtinLookup_eq_fast]; kernel_rfl) (by decide +kernel) (by decide +kernel) (by decide +kernel)
    (by first | exact .inl (by decide +kernel) | exact .inr (by decide +kernel)) (by rw [isSubtype_type]; kernel_rfl)
theorem entry_set : entryFor table "bytearray.__setitem__" = some Builtin.«bytearray.__setitem__» := by first | exact entryFor_of_fast (by kernel_rfl) | exact entryFor_of_tree (by kernel_rfl)
theorem args_set (a b c : Value) : argsOk "bytearray.__setitem__" ⟨[a, b, c], []⟩ := by unfold argsOk; kernel_rfl
theorem bind_init (v : Value) : Builtin.Bytes.bindOptional "bytearray.__init__" "bytearray" ["source", "encoding", "errors"] [v] [] = pure [some v, none, none] := by kernel_rfl
end FA
set_option maxRecDepth 1000000 in
set_option maxHeartbeats 4000000 in
theorem owner_new : ("bytearray.__new__".splitOn ".__new__").headD "" = "bytearray" := by simp +decide [String.splitOn, String.splitOnAux]

abbrev baObj (b : Array UInt8) : Obj := { cls := .type "bytearray", data := .bytearray b }

section
variable {prog : Program} {w : World} {A : Around} {E : Value → Shared → Prop} {s : Shared}

theorem code_ba_new (a : Value) {Q₁ : Value → Shared → Prop}
    (h : Q₁ (.ref s.heap.objs.size) { s with heap := s.heap.push (baObj #[]) }) :
    codeAny (model prog w) A (.call (.builtin "bytearray.__new__") ⟨[.type "bytearray", a], []⟩) (wants Q₁ E) s := by
  refine codeAny_of_tree ?_
  show wpAny _ A.in1 (do checkBuiltinCall "bytearray.__new__" ⟨[.type "bytearray", a], []⟩; again (.builtin "bytearray.__new__" ⟨[.type "bytearray", a], []⟩)) _ _ s
  refine wpAny_bind (wpAny_of_eq (FA.newCall a) (wpAny_pure ⟨plainId_quiet FA.plain_new _, codeAny_builtin_stack FA.entry_new rfl fun p st => ?_⟩))
  rw [Around.under_plainId FA.plain_new _]
  have hsub := FA.sub_self
  have hown := owner_new
  obtain ⟨hp, g, d, tk, os⟩ := s
  simp only [hown]
  wp_walk
  exact h
end

section
variable {prog : Program} {w : World} {A : Around} {E : Value → Shared → Prop} {s : Shared} {S : Addr} {b : Array UInt8}

theorem ba_typeIs (hS : s.heap.get? S = some (baObj b)) : s.TypeIs (.ref S) "bytearray" := ⟨_, hS, rfl⟩

theorem ba_ownRelease {M : Model} {Q : Bool → Shared → Prop} (hS : s.heap.get? S = some (baObj b)) (h : Q false s) : wpAny M A (Builtin.Bytes.ownRelease (.ref S)) Q E s := by
  unfold Builtin.Bytes.ownRelease Builtin.Bytes.slotIsOwn
  refine wpAny_bind (wpAny_bind (wpAny_specialOf (ba_typeIs hS) FA.look_release ?_))
  dsimp only
  refine bm_if_false (by decide +kernel) ?_
  have e : ("bytearray.__release_buffer__".dropRight ("__release_buffer__".length + 1) : String) = "bytearray" := by decide +kernel
  rw [e]
  exact wpAny_isInstance (ba_typeIs hS) FA.sub_self (wpAny_pure h)

theorem ba_write {M : Model} {f : Array UInt8 → Array UInt8} {Q : Unit → Shared → Prop} (hS : s.heap.get? S = some (baObj b)) (hz : (f b).size ≤ sizeLine)
    (h : Q () { s with heap := s.heap.update S (Obj.mapBytearray f) }) : wpAny M A (Builtin.Bytes.write (.ref S) f) Q E s := by
  show wpAny _ _ (updateBytearray S f) _ _ _
  unfold updateBytearray
  refine wpAny_bind (wpAny_load hS ?_)
  show wpAny _ _ (update S (Obj.mapBytearray f) >>= fun _ => lookBehind S) _ _ _
  refine wpAny_bind (wpAny_update hS ?_)
  refine wpAny_lookBehind (o := baObj (f b)) (Heap.get?_update_self (Obj.mapBytearray f) hS rfl) ?_ h
  show (if (f b).size > sizeLine then some "bytearray:memory" else none) = none
  rw [if_neg (by omega)]

theorem ba_payload {M : Model} {Q : Array UInt8 → Shared → Prop} (hS : s.heap.get? S = some (baObj b)) (h : Q b s) : wpAny M A (Builtin.Bytes.payload (.ref S)) Q E s := by
  unfold Builtin.Bytes.payload Builtin.Bytes.payload?
  refine wpAny_bind (wpAny_bind (wpAny_load hS ?_))
  exact wpAny_pure (wpAny_pure h)

theorem wpP_if_false {α : Type} {M : Model} {c : Bool} {a b : Sem α} {Q : α → Shared → Prop} (hc : c = false) (h : wpP M A b Q E s) : wpP M A (if c = true then a else b) Q E s := by
  subst hc
  exact h
theorem wpP_if_true {α : Type} {M : Model} {c : Bool} {a b : Sem α} {Q : α → Shared → Prop} (hc : c = true) (h : wpP M A a Q E s) : wpP M A (if c = true then a else b) Q E s := by
  subst hc
  exact h

theorem wpP_orFalse {M : Model} {x y : Sem Bool} {Q : Bool → Shared → Prop} (hx : wpP M A x (fun r s' => r = false ∧ wpP M A y Q E s') E s) : wpP M A (x <||> y) Q E s := by
  unfold orM
  refine wpP_bind (wpP_mono hx ?_ fun _ _ h => h)
  rintro _ s' ⟨rfl, h⟩
  exact h

theorem ba_init {M : Model} {n : Int} {u : Tok} {Q : Fin → Shared → Prop} (hS : s.heap.get? S = some (baObj b)) (h0 : 0 ≤ n) (hn : n ≤ 1000)
    (h : ∀ h', h'.get? S = some (baObj (Array.replicate n.toNat 0)) → (∀ a o, a ≠ S → s.heap.get? a = some o → h'.get? a = some o) → Q (.done (.ret .none)) { s with heap := h' }) :
    wpP M A (Builtin.«bytearray.__init__» ⟨[.ref S, .int n u], []⟩) Q E s := by
  unfold Builtin.«bytearray.__init__»
  dsimp only
  refine wpP_then (ba_ownRelease hS ?_)
  refine wpP_if_false rfl ?_
  rw [FA.bind_init]
  refine wpP_then (wpAny_pure ?_)
  dsimp only
  refine wpP_then (wpAny_of_eq (a := ()) rfl ?_)
  refine wpP_then (wpAny_of_eq (a := ()) rfl ?_)
  refine wpP_bind ?_
  refine wpP_orFalse (wpP_exported ⟨rfl, ?_⟩)
  unfold Builtin.Bytes.exportsOf
  refine wpP_then (wpAny_bind (wpAny_load hS (wpAny_pure ?_)))
  refine wpP_pure ?_
  refine wpP_if_false rfl ?_
  refine wpP_then (ba_write hS (Nat.zero_le _) ?_)
  have hS₁ : (s.heap.update S (Obj.mapBytearray fun _ => #[])).get? S = some (baObj #[]) := Heap.get?_update_self (Obj.mapBytearray fun _ => #[]) hS rfl
  refine wpP_then (wpAny_of_eq (a := none) rfl ?_)
  refine wpP_if_false rfl ?_
  refine wpP_if_false (by simp only [Builtin.Bytes.fitsIndex, Bool.not_eq_false', Bool.and_eq_true, decide_eq_true_eq]; omega) ?_
  rw [if_neg (by omega : ¬ n < 0)]
  refine wpP_if_false (by simp only [beq_eq_false_iff_ne, ne_eq]; omega) ?_
  refine wpP_if_false (by simp only [Builtin.Bytes.tooLong, decide_eq_false_iff_not, sizeLine_eq]; omega) ?_
  refine wpP_then (wpAny_rule ?_)
  have oth : ∀ a o, a ≠ S → s.heap.get? a = some o → (s.heap.update S (Obj.mapBytearray fun _ => #[])).get? a = some o := fun a o ha e => (Heap.get?_update_other _ _ (Ne.symm ha)).trans e
  by_cases hp : n > 0
  · rw [if_pos hp]
    refine wpP_then (ba_write hS₁ (by rw [Array.size_replicate, sizeLine_eq]; omega) ?_)
    refine wpP_pure (h _ (Heap.get?_update_self (Obj.mapBytearray fun _ => Array.replicate n.toNat 0) hS₁ rfl) fun a o ha e => (Heap.get?_update_other _ _ (Ne.symm ha)).trans (oth a o ha e))
  · rw [if_neg hp]
    have : n = 0 := by omega
    subst this
    exact wpP_pure (h _ hS₁ oth)

def lendsId (id : String) : Bool := Builtin.Bytes.decodersThatHold.contains id || ["bytearray.__contains__", "bytearray.__mod__", "bytearray.__rmod__", "_struct.pack_into.held", "bytearray.find.held"].contains id
theorem lends_of {id : String} {args : Args} (h : lendsId id = false) : lends (.builtin id args) = false := h
theorem codeP_builtin {id : String} {args : Args} {b : Builtin} {R : Result → Shared → Prop} (hl : lends (.builtin id args) = false) (hb : entryFor table id = some b)
    (h : wpP (model prog w) (A.under (.builtin id args)) (b args)
      (fun fin s' => match fin with | .done f => R (.ok f) s' | .again c' => c'.quiet = true ∧ codeP (model prog w) A c' R s') (fun e s' => R (.error e) s') s) :
    codeP (model prog w) A (.builtin id args) R s := by
  refine codeP_of_tree hl ?_
  show wpP _ _ (match entryFor table id with | some b => b args | none => unsupported ((withoutEnding? id "#data").getD id)) _ _ s
  rw [hb]; exact h
theorem codeP_call_builtin {id : String} {args : Args} {b : Builtin} {R : Result → Shared → Prop} (hq : plainId id = true) (hl : lends (.builtin id args) = false) (hb : entryFor table id = some b)
    (h : wpAny (model prog w) A.in1 (checkBuiltinCall id args) (fun _ s₁ => wpP (model prog w) A.in1 (b args)
      (fun fin s' => match fin with | .done f => R (.ok f) s' | .again c' => c'.quiet = true ∧ codeP (model prog w) A c' R s') (fun e s' => R (.error e) s') s₁)
      (fun e s' => R (.error e) s') s) : codeP (model prog w) A (.call (.builtin id) args) R s := by
  refine codeP_of_tree rfl ?_
  show wpP _ A.in1 (do checkBuiltinCall id args; again (.builtin id args)) _ _ s
  refine wpP_then (wpAny_mono h (fun _ s₁ h₁ => wpP_pure (And.intro (plainId_quiet hq args) (codeP_builtin hl hb ?_))) fun _ _ h' => h')
  rw [Around.under_plainId hq args]; exact h₁

theorem call_bytearray {n : Int} {u : Tok} {Q : Value → Shared → Prop} (h0 : 0 ≤ n) (hn : n ≤ 1000)
    (h : ∀ h', h'.get? s.heap.objs.size = some (baObj (Array.replicate n.toNat 0)) → (∀ a o, s.heap.get? a = some o → h'.get? a = some o) → Q (.ref s.heap.objs.size) { s with heap := h' }) :
    wpP (model prog w) A (call (.type "bytearray") [.int n u]) Q E s := by
  refine wpP_call (codeP_of_tree rfl ?_)
  show wpP _ _ (callAny (.type "bytearray") _) _ _ _
  refine wpP_pure ⟨Code.quiet_builtin _ (by decide +kernel), codeP_builtin (lends_of (by decide +kernel)) PySem.F.entry_type_call ?_⟩
  rw [Around.under_plain (weight_type_call_type "bytearray" [.int n u] []) rfl]
  unfold Builtin.«type.__call__»
  dsimp only
  refine wpP_if_false rfl ?_
  refine wpP_if_false FA.called.canCreate ?_
  refine wpP_then (wpAny_of_eq (FA.typeCall _) ?_)
  refine wpP_then (wpAny_of_eq FA.mro ?_)
  refine wpP_if_false rfl ?_
  refine wpP_then (wpAny_of_eq FA.called.made ?_)
  refine wpP_then (wpAny_pure ?_)
  refine wpP_bind (wpP_holding (wpP_any (wpAny_call (codeAny_mono (code_ba_new (E := fun _ _ => False) (Q₁ := fun obj s₁ => obj = .ref s.heap.objs.size ∧ s₁ = { s with heap := s.heap.push (baObj #[]) }) (.int n u) ⟨rfl, rfl⟩) fun r s₁ hr => ?_))))
  rcases r with e | (_ | _ | _ | obj) <;> first | exact hr.elim | skip
  obtain ⟨rfl, rfl⟩ := hr
  have hS : (s.heap.push (baObj #[])).get? s.heap.objs.size = some (baObj #[]) := Heap.get?_push_size _ rfl
  dsimp only
  refine wpP_then (wpAny_isInstance (s := { s with heap := s.heap.push (baObj #[]) }) ⟨_, hS, rfl⟩ FA.sub_self ?_)
  refine wpP_if_false rfl ?_
  refine wpP_bind (wpP_holding ?_)
  unfold callSpecial?
  refine wpP_then (wpAny_specialOf (s := { s with heap := s.heap.push (baObj #[]) }) ⟨_, hS, rfl⟩ FA.slot_init.lookup ?_)
  dsimp only
  refine wpP_holding ?_
  rw [FA.slot_init.bind]
  refine wpP_then (wpAny_pure ?_)
  dsimp only
  refine wpP_bind (wpP_call (codeP_call_builtin FA.plain_init (lends_of (by decide +kernel)) FA.entry_init (FA.slot_init.check _ _ _ _ _ _ _ _ ⟨_, hS, rfl⟩ (FA.args_init _ _) ?_)))
  refine ba_init (s := { s with heap := s.heap.push (baObj #[]) }) hS h0 hn fun h' hS' hk => ?_
  refine wpP_pure ?_
  exact wpP_pure (h h' hS' fun a o e => hk a o (Nat.ne_of_lt (Heap.lt_size e)) (Heap.get?_push_of_some _ e))

/-- an octet is laid -/
theorem setItem_ba {S : Addr} {b : Array UInt8} {i v : Int} {t u : Tok} {Q : Unit → Shared → Prop} (hS : s.heap.get? S = some (baObj b)) (h0 : 0 ≤ i) (h1 : i < b.size) (hz : b.size ≤ 1000) (hv0 : 0 ≤ v) (hv1 : v < 256)
    (h : Q () { s with heap := s.heap.update S (Obj.mapBytearray (·.setIfInBounds i.toNat v.toNat.toUInt8)) }) : wpAny (model prog w) A (setItem (.ref S) (.int i t) (.int v u)) Q E s := by
  have hT : s.TypeIs (.ref S) "bytearray" := ba_typeIs hS
  unfold setItem
  try with_reducible refine wpAny_holding ?_
  refine wpAny_bind (wpAny_sequenceKey hT (by decide) ?_)
  refine wpAny_bind (wpAny_callSpecial?_slot (name := Str.ofString "__setitem__") hT FA.slot_set
    (wpAny_call_entry FA.slot_set hT FA.entry_set ?_ (FA.args_set _ _ _)))
  show wpAny _ _ (Builtin.Bytes.subscript? (.int i t) >>= _) _ _ s
  refine wpAny_bind ?_
  unfold Builtin.Bytes.subscript?
  refine wpAny_bind (wpAny_specialOf (typeIs_int s i t) PySem.F.slot_int_index.lookup ?_)
  show wpAny _ _ (if (!Builtin.Bytes.fitsIndex i) = true then _ else pure (some i)) _ _ s
  refine bm_if_false (by simp only [Builtin.Bytes.fitsIndex, Bool.not_eq_false', Bool.and_eq_true, decide_eq_true_eq]; omega) ?_
  refine wpAny_pure ?_
  show wpAny _ _ (Builtin.Bytes.byteValue (.int v u) >>= _) _ _ s
  refine wpAny_bind ?_
  unfold Builtin.Bytes.byteValue
  refine wpAny_bind (wpAny_of_eq (rfl : asIndex (.int v u) = pure v) ?_)
  refine bm_if_false (by simp only [Bool.or_eq_false_iff, decide_eq_false_iff_not]; omega) ?_
  refine wpAny_pure ?_
  refine wpAny_bind (ba_payload hS ?_)
  have e : seqIndex? i b.size = some i.toNat := by
    have hn : ¬ i < 0 := by omega
    simp [seqIndex?, hn, h0, h1]
  rw [e]
  dsimp only
  refine wpAny_bind (ba_write hS (by rw [Array.size_setIfInBounds, sizeLine_eq]; omega) ?_)
  first
    | exact wpAny_pure ⟨.none, rfl, wpAny_pure h⟩
    | exact wpAny_bind (wpAny_pure (wpAny_pure ⟨.none, rfl, wpAny_pure h⟩))

theorem byteArr_set (ns : List Int) (k : Nat) (v : Int) : (byteArr ns).setIfInBounds k v.toNat.toUInt8 = byteArr (ns.set k v) := by
  apply Array.toList_inj.mp
  simp [byteArr, List.map_set]
theorem byteArr_nils (n : Nat) : Array.replicate n (0 : UInt8) = byteArr (List.replicate n 0) := by
  apply Array.toList_inj.mp
  simp [byteArr]

section
variable {h₀ : Heap} {L D : Addr} {m : PySem.Str → Option Value} {news news' : List (Addr × Obj)}
theorem set_ba_K {ns : List Int} {i v : Int} {t u : Tok} {Q : Unit → Shared → Prop} (F : Fr h₀ L s.heap m) (N : News h₀ L s.heap news) (U : Upd D (baObj (byteArr ns)) (baObj (byteArr (ns.set i.toNat v))) news news')
    (h0 : 0 ≤ i) (h1 : i < ns.length) (hz : ns.length ≤ 1000) (hv0 : 0 ≤ v) (hv1 : v < 256)
    (h : ∀ h', Fr h₀ L h' m → News h₀ L h' news' → Q () { s with heap := h' }) : wpAny (model prog w) A (setItem (.ref D) (.int i t) (.int v u)) Q E s := by
  obtain ⟨pre, post, rfl, rfl, a, b⟩ := U.split
  have z := N (D, baObj (byteArr ns)) (List.mem_append.mpr (.inr (.head _)))
  refine setItem_ba z.1 h0 (by rw [byteArr_size]; exact h1) (by rw [byteArr_size]; exact hz) hv0 hv1 ?_
  refine h _ (F.change (Heap.SameBut.update ..) z.2.1 z.2.2) (news_set N a b (Heap.SameBut.update ..) ?_)
  rw [← byteArr_set]
  exact Heap.get?_update_self (Obj.mapBytearray (·.setIfInBounds i.toNat v.toNat.toUInt8)) z.1 rfl
theorem ba_new_K {n : Int} {u : Tok} {Q : Value → Shared → Prop} (F : Fr h₀ L s.heap m) (N : News h₀ L s.heap news) (h0 : 0 ≤ n) (hn : n ≤ 1000)
    (h : ∀ D h', Fr h₀ L h' m → News h₀ L h' ((D, baObj (byteArr (List.replicate n.toNat 0))) :: news) → (∀ p ∈ news, p.1 < D) → Q (.ref D) { s with heap := h' }) :
    wpP (model prog w) A (call (.type "bytearray") [.int n u]) Q E s := by
  refine call_bytearray h0 hn fun h' hS keep => ?_
  rw [byteArr_nils] at hS
  exact h _ h' (F.kept keep) (News.kept_cons F N keep (Nat.le_refl _) hS) fun p hp => Heap.lt_size (N p hp).1
end

theorem ba_buffer {M : Model} {id : String} {S : Addr} {b : Array UInt8} {Q : Option (Array UInt8) → Shared → Prop} (hS : s.heap.get? S = some (baObj b)) (h : Q (some b) s) : wpAny M A (Builtin.Bytes.buffer? id (.ref S) true) Q E s := by
  have hT : s.TypeIs (.ref S) "bytearray" := ba_typeIs hS
  unfold Builtin.Bytes.buffer?
  refine wpAny_bind (wpAny_specialOf hT FA.look_buffer ?_)
  dsimp only
  refine wpAny_bind ?_
  unfold Builtin.Bytes.slotIsOwn
  refine wpAny_bind (wpAny_specialOf hT FA.look_buffer ?_)
  dsimp only
  refine bm_if_false (by decide +kernel) ?_
  have e : ("bytearray.__buffer__".dropRight ("__buffer__".length + 1) : String) = "bytearray" := by decide +kernel
  rw [e]
  refine wpAny_isInstance hT FA.sub_self ?_
  refine bm_if_false rfl ?_
  refine wpAny_bind (wpAny_specialOf hT FA.look_buffer ?_)
  refine wpAny_bind (ba_ownRelease hS ?_)
  refine bm_if_false rfl ?_
  exact wpAny_bind (ba_payload hS (wpAny_pure h))

theorem bytes_ba {S : Addr} {b : Array UInt8} {Q : Value → Shared → Prop} (hS : s.heap.get? S = some (baObj b)) (hz : b.size ≤ 1000)
    (hQ : ∀ t k, Q (.bytes b t) { s with toks := k }) : wpAny (model prog w) A (call (.type "bytes") [.ref S]) Q E s := by
  have hT : s.TypeIs (.ref S) "bytearray" := ba_typeIs hS
  refine callType_codes (Q₁ := fun obj s₁ => s₁.TypeIs obj "bytes" ∧ Q obj s₁) PySem.F.bm_called (PySem.F.bm_typeCall _) PySem.F.entry_object_init
    ?_ fun obj s₁ h₁ => ⟨h₁.1, PySem.F.args_object_init_2 obj _, object_init_meets PySem.F.bm_called.init.lookup PySem.F.bm_called.made (by decide) prog w A.in1 _ s₁ ⟨h₁.1, rfl, h₁.2⟩⟩
  refine codeAny_of_tree ?_
  show wpAny _ A.in1.in1 (do checkBuiltinCall "bytes.__new__" ⟨[.type "bytes", .ref S], []⟩; again (.builtin "bytes.__new__" ⟨[.type "bytes", .ref S], []⟩)) _ _ s
  refine wpAny_bind (wpAny_of_eq (PySem.F.bm_newCall _) (wpAny_pure ⟨plainId_quiet PySem.F.bm_plain _, codeAny_builtin PySem.F.bm_entry ?_⟩))
  rw [Around.under_plainId PySem.F.bm_plain _]
  unfold Builtin.«bytes.__new__»
  refine wpAny_bind (wpAny_of_eq (a := true) rfl ?_)
  refine bm_if_false rfl ?_
  refine wpAny_bind (wpAny_of_eq PySem.F.bm_sub ?_)
  refine bm_if_false rfl ?_
  refine wpAny_bind (wpAny_of_eq (PySem.F.bm_bind _) ?_)
  refine wpAny_bind (wpAny_of_eq (a := ()) rfl ?_)
  refine wpAny_bind (wpAny_of_eq (a := ()) rfl ?_)
  refine bm_if_false rfl ?_
  refine wpAny_bind (wpAny_specialOf hT FA.no_bytes ?_)
  refine wpAny_bind (wpAny_bind ?_)
  show wpAny _ _ (load S >>= _) _ _ _
  refine wpAny_bind (wpAny_load hS ?_)
  refine wpAny_pure (wpAny_pure ?_)
  refine bm_if_false rfl ?_
  refine wpAny_bind (wpAny_specialOf hT FA.noIndex ?_)
  refine bm_if_true rfl ?_
  first
    | show wpAny _ _ (Builtin.Bytes.buffer? "bytes.__new__" (.ref S) true >>= _) _ _ _
    | (refine wpAny_bind ?_; show wpAny _ _ (Builtin.Bytes.buffer? "bytes.__new__" (.ref S) true >>= _) _ _ _)
  refine wpAny_bind (ba_buffer hS ?_)
  dsimp only
  refine wpAny_bind (wpAny_rule ?_)
  refine wpAny_bind (wpAny_mkBytes ?_ (by rw [sizeLine_eq]; omega))
  show wpAny _ _ (if (Value.type "bytes" == Value.type "bytes") = true then _ else _) _ _ _
  refine bm_if_true (by decide) ?_
  exact wpAny_pure ⟨PySem.W.typeIs_bytes _ _ _, hQ _ _⟩
end

section
variable {prog : Program} {w : World} {A : Around} {s : Shared} {K : Frag} {E : Value → Shared → Prop} {Q : Value → Shared → Prop} {R : Result → Shared → Prop}
  {p : Program} {loose : List Str} {mean : ExcName → Option Value} {mg mb : Str → Option Value}
  {name qual : Str} {params : Arguments} {body : List Stmt} {scope : Scope} {dV kV doc pm cdv ct oc : Value} {an od : Option Addr} {osl : Array (Option Value)} {f : Addr} {vs : List Value} {kw : List (Str × Value)} {binds : List (Str × Value)}

theorem codeP_call_function {a : Addr} {args : Args} {o : Obj} {fd : FuncData} (hroom : A.depth < recursionLimit)
    (ho : s.heap.get? a = some o)
    (hd' : o.data = .func fd) (hco : fd.scope.isCoroutine = false) (hgen : fd.scope.isGenerator = false) (hbody : fd.body = .stmts body) (hcd : s.heap.CodeRec fd.code fd.qualname)
    (h : wpAny (model prog w) A.in1 (bindArgs fd args) (fun binds s₁ =>
      wpAny (model prog w) A.in1 (newFunctionEnv fd.scope fd.globals fd.closure binds (fd.qualname ++ ".<locals>.") (some a) fd.code none fd.builtins)
        (fun env s₂ => s₂.heap.NoLimit ∧ codeP (model prog w) A (.func body env) R s₂) (fun e s' => R (.error e) s') s₁) (fun e s' => R (.error e) s') s) :
    codeP (model prog w) A (.call (.ref a) args) R s := by
  refine codeP_of_tree rfl ?_
  show wpP _ A.in1 (callAny (.ref a) args) _ _ s
  simp only [callAny]
  refine wpP_then (wpAny_load ho ?_)
  obtain ⟨c, oc, vs, tq, hc, hoc, hdc, hq⟩ := hcd
  simp only [hd', callFunction, hco, hgen, hbody, hc]
  rw [hc] at h
  refine wpP_then (m := field (.ref c) 1) (wpAny_field hoc hdc hq ?_)
  refine wpP_then (wpAny_pure ?_)
  refine wpP_then (wpAny_mono h (fun binds s₁ h₁ => ?_) fun _ _ h' => h')
  refine wpP_then (wpAny_mono h₁ (fun env s₂ h₂ => ?_) fun _ _ h' => h')
  exact wpP_then (wpAny_enterFrame h₂.1 hroom (wpP_pure (And.intro rfl h₂.2)))

theorem codeP_func {env : Env}
    (h : wpP (model prog w) (A.deeper env) (execs body env) (fun f s' => R (.ok (.ret (retOf f))) s') (fun _ _ => False) s) :
    codeP (model prog w) A (.func body env) R s := by
  refine codeP_of_tree rfl ?_
  show wpP _ (A.deeper env) (do point; match ← (execs body env).onRaise (leaving env) with | .ret v => ret v | _ => ret .none) _ _ s
  refine wpP_then (wpAny_point ?_)
  refine wpP_bind (wpP_onRaise (wpP_mono h (fun f s' h' => ?_) fun _ _ h' => h'.elim))
  cases f <;> exact wpP_pure h'

theorem enterP (X : K.In s.heap) (T : Top p loose mean mg mb s.heap)
    (ho : K.lookup f = some ⟨oc, od, .func (fnOf name qual params body scope dV kV doc pm an cdv ct), osl⟩) (hcd : codeIn K cdv qual = true) (hroom : A.depth < recursionLimit)
    (hbind : BindsTo s (fnOf name qual params body scope dV kV doc pm an cdv ct) ⟨vs, kw⟩ binds) (hloc : ∀ y ∈ binds, scope.names.lookup y.1 = some .local)
    (hco : scope.isCoroutine = false) (hgen : scope.isGenerator = false) (hk : scope.kind = .function)
    (hcell : ∀ x ∈ scope.names, x.2 ≠ .cell)
    (h : ∀ h₁, Fr s.heap s.heap.objs.size h₁ (fun y => binds.reverse.lookup y) → News s.heap s.heap.objs.size h₁ [] →
      wpP (model prog w) (A.deeper (envOf qual scope s.heap.objs.size f cdv)) (execs body (envOf qual scope s.heap.objs.size f cdv))
        (fun fl s' => Q (retOf fl) s') (fun _ _ => False) { s with heap := h₁, toks := s.toks + binds.length }) :
    wpP (model prog w) A (call (.ref f) vs kw) Q E s := by
  refine wpP_call (codeP_call_function hroom (X _ _ ho) rfl hco hgen rfl (codeRec_of X hcd) (hbind _ _ _ _ ?_))
  refine wpAny_newFunctionEnv hcell hloc (fun h₀ hns₀ hsb₀ => ⟨T.nolimit.fresh _ hsb₀, codeP_func ?_⟩) hk
  have keep : ∀ b o, s.heap.get? b = some o → h₀.get? b = some o := fun b o e => hsb₀.extBut b o (Nat.ne_of_lt (Heap.lt_size e)) (Heap.get?_push_of_some _ e)
  exact wpP_mono (h h₀ ⟨hns₀, keep, Nat.le_refl _⟩ News.nil) (fun fl s' hl => by cases fl <;> exact hl) (fun _ _ x => x)

theorem enterCP {o : Obj} (hlim : s.heap.NoLimit) (ho : s.heap.get? f = some o) (hd : o.data = .func (fnOf name qual params body scope dV kV doc pm an cdv ct))
    (hcd : s.heap.CodeRec cdv qual) (hroom : A.depth < recursionLimit)
    (hbind : BindsTo s (fnOf name qual params body scope dV kV doc pm an cdv ct) ⟨vs, kw⟩ binds)
    (hkind : (binds.all fun y => scope.names.lookup y.1 == some .local || scope.names.lookup y.1 == some .cell) = true)
    (hnd : ((cellsFrom 0 scope.names []).map (·.1)).Nodup)
    (hco : scope.isCoroutine = false) (hgen : scope.isGenerator = false) (hk : scope.kind = .function)
    (h : ∀ h₁ tk cells, Fr s.heap s.heap.objs.size h₁ (bindL (envOfC qual scope s.heap.objs.size f cdv).kindOf binds fun _ => none) → News s.heap s.heap.objs.size h₁ cells →
      CellsAre (bindC (envOfC qual scope s.heap.objs.size f cdv).kindOf binds fun _ => none) (cellsFrom (s.heap.objs.size + 1) scope.names []) cells →
      wpP (model prog w) (A.deeper (envOfC qual scope s.heap.objs.size f cdv)) (execs body (envOfC qual scope s.heap.objs.size f cdv))
        (fun fl s' => Q (retOf fl) s') (fun _ _ => False) { s with heap := h₁, toks := tk }) :
    wpP (model prog w) A (call (.ref f) vs kw) Q E s := by
  refine wpP_call (codeP_call_function hroom ho hd hco hgen rfl hcd (hbind _ _ _ _ ?_))
  refine wpAny_newFunctionEnv_cells hk (kindsX hkind _) fun env' he s' x => ?_
  subst he
  refine ⟨hlim.keeps x.toInCall.keep, codeP_func ?_⟩
  obtain ⟨h₁, tk, rfl, _⟩ := x.done
  obtain ⟨cells, NC, Y⟩ := Cl.news (h₀ := s.heap) (Nat.le_refl _) fun n c hm => ⟨x.cell n c (lookup_of_mem_nodup (cellsFrom_names scope.names 0 (s.heap.objs.size + 1) [] [] rfl ▸ hnd) hm), x.above n c hm⟩
  exact wpP_mono (h h₁ tk cells ⟨x.toInCall.ns, x.toInCall.keep, Nat.le_refl _⟩ NC Y) (fun fl s' hl => by cases fl <;> exact hl) (fun _ _ x => x)
end

section
variable {M : Model} {A : Around} {s : Shared} {E : Value → Shared → Prop} {env : Env}

theorem wpP_keep {α : Type} {vs : List Value} {m : Sem α} {Q : α → Shared → Prop} (h : wpP M A m Q E s) : wpP M A (m.keep vs) Q E s :=
  fun Γ p hΓ hc => by rw [Sem.wp_keep]; exact h Γ p hΓ hc
def nextP (M : Model) (A : Around) (rest : List Stmt) (env : Env) (Q : Flow → Shared → Prop) (E : Value → Shared → Prop) (f : Flow) (s : Shared) : Prop :=
  match f with | .next => wpP M A (execs rest env) Q E s | f => Q f s

theorem execs_consP {st : Stmt} {rest : List Stmt} {Q : Flow → Shared → Prop} (h : wpP M A (exec st env) (nextP M A rest env Q E) E s) :
    wpP M A (execs (st :: rest) env) Q E s := by
  rw [execs_cons]
  refine wpP_bind (wpP_mono h (fun f s' h' => ?_) fun _ _ x => x)
  cases f <;> first | exact h' | exact wpP_pure h'
theorem execs_anyP {st : Stmt} {rest : List Stmt} {Q : Flow → Shared → Prop} (h : wpAny M A (exec st env) (nextP M A rest env Q E) E s) :
    wpP M A (execs (st :: rest) env) Q E s := execs_consP (wpP_any h)

theorem Assign_NameP {x pos' value pos} {Q : Flow → Shared → Prop}
    (h : wpP M A (eval value env) (fun v s₁ => wpAny M A (storeName env x v) (fun _ => Q .next) E s₁) E s)
    (hs : swapsWith value (some (.Name x pos')) pos.line env = pure false := by rfl) :
    wpP M A (exec (.Assign [.Name x pos'] value pos) env) Q E s := fun Γ p hΓ hc => by
  simp only [exec_Assign_Name env x pos' value pos hs, Sem.wp_bind', Sem.wp_cmd_standAt, Sem.wp_bindName, Sem.wp_pure']
  exact Sem.wp_mono M Γ _ (fun v _ s₁ h₁ => h₁ Γ _ hΓ) (fun _ _ _ h' => h') _ _ (h Γ _ hΓ hc)

theorem Assign_TupleP {elts k tpos value pos} {names : List Str} {Q : Flow → Shared → Prop}
    (h : wpP M A (eval value env) (fun v s₁ => wpAny M A (unpackItems v names.length none) (fun items s₂ =>
      wpAny M A (assignInOrder (names.reverse.map fun n => bindName env n) items.reverse) (fun _ => Q .next) E s₂) E s₁) E s)
    (hs : swapsWithSole [.Tuple elts k tpos] value pos.line env = pure false := by rfl)
    (hw : swappedStores [.Tuple elts k tpos] value env = pure (some names) := by rfl) :
    wpP M A (exec (.Assign [.Tuple elts k tpos] value pos) env) Q E s := by
  rw [exec_Assign]
  refine wpP_then (wpAny_standAt ?_)
  rw [hs]
  refine wpP_then (wpAny_pure ?_)
  rw [if_neg (by decide)]
  refine wpP_bind (wpP_mono h (fun v s₁ h₁ => ?_) fun _ _ x => x)
  rw [hw]
  refine wpP_then (wpAny_pure ?_)
  show wpP M A (do rule "assign.swapped-stores"; let items ← unpackItems v names.length none; assignInOrder (names.reverse.map fun n => bindName env n) items.reverse; pure .next) Q E s₁
  refine wpP_then (wpAny_rule ?_)
  refine wpP_then (wpAny_mono h₁ (fun items s₂ h₂ => ?_) fun _ _ x => x)
  exact wpP_then (wpAny_mono h₂ (fun _ _ x => wpP_pure x) fun _ _ x => x)

theorem Call_P {func : Expr} {args : List Expr} {pos : Pos} {Q : Value → Shared → Prop}
    (h : wpAny M A (eval func env) (fun f s₁ => wpP M A (callWith pos f [] (backTo pos (starEach args env)) []) Q E s₁) E s)
    (he : eval (.Call func args [] pos) env = (do callWith pos (← eval func env) [] (backTo pos (starEach args env)) (backToKw pos (keywordEach [] env))) := by rfl) :
    wpP M A (eval (.Call func args [] pos) env) Q E s := by
  rw [he]; exact wpP_then h

theorem callWith_typeP {pos : Pos} {T : String} {args : List (Bool × Sem Value)} {Q : Value → Shared → Prop}
    (hplain : args.any (·.1) = false)
    (h : wpAny M A (evalArgs (.type T) true args []) (fun a s₁ => wpP M A (call (.type T) a.pos a.kw) Q E s₁) E s) :
    wpP M A (callWith pos (.type T) [] args []) Q E s := by
  unfold callWith
  refine wpP_bind (wpP_holding (wpP_any (wpAny_mono h (fun a s₁ h₁ => ?_) fun _ _ x => x)))
  refine wpP_then (wpAny_standAt ?_)
  simp only [hplain, List.any_nil, Bool.or_false]
  refine wpP_then (wpAny_pure ?_)
  refine wpP_bind (wpP_mono h₁ (fun r s₂ hr => ?_) fun _ _ x => x)
  exact wpP_then (wpAny_holding (wpAny_point (wpP_pure hr)))
theorem callWith_type1P {pos : Pos} {T : String} {e : Expr} {rest : List Expr} {Q : Value → Shared → Prop}
    (h : wpAny M A (spliced (backTo pos (starEach (e :: rest) env))) (fun vs s₁ => wpP M A (call (.type T) vs) Q E s₁) E s)
    (he : starEach (e :: rest) env = (false, eval e env) :: starEach rest env := by rfl) (hplain : (backTo pos (starEach rest env)).any (·.1) = false := by rfl) :
    wpP M A (callWith pos (.type T) [] (backTo pos (starEach (e :: rest) env)) []) Q E s := by
  rw [he] at h ⊢
  exact callWith_typeP (by show (false || (backTo pos (starEach rest env)).any (·.1)) = false; rw [hplain]; rfl) (evalArgs_plain h)

theorem callWith_KP {K : Frag} {f : Value} {e : Expr} {rest : List Expr} {pos : Pos} {Q : Value → Shared → Prop} (hk : keepIn K f = true) (h : wpAny M A (spliced (backTo pos (starEach (e :: rest) env))) (fun vs s₁ => K.In s₁.heap ∧ wpP M A (call f vs) Q E s₁) E s)
    (he : starEach (e :: rest) env = (false, eval e env) :: starEach rest env := by rfl) (hplain : (backTo pos (starEach rest env)).any (·.1) = false := by rfl) :
    wpP M A (callWith pos f [] (backTo pos (starEach (e :: rest) env)) []) Q E s := by
  rw [he] at h ⊢
  unfold callWith
  refine wpP_bind (wpP_holding (wpP_any (wpAny_mono (evalArgs_plain (Q := fun a s₁ => K.In s₁.heap ∧ wpP M A (call f a.pos a.kw) Q E s₁) h) (fun a s₁ h₁ => ?_) fun _ _ x => x)))
  refine wpP_then (wpAny_standAt ?_)
  obtain ⟨k, hk', L⟩ := looks_keep (M := M) hk h₁.1
  have hp : ((false, eval e env) :: backTo pos (starEach rest env)).any (·.1) = false := by show (false || (backTo pos (starEach rest env)).any (·.1)) = false; rw [hplain]; rfl
  have hp' : (backTo pos ((false, eval e env) :: starEach rest env)).any (·.1) = false := hp
  simp only [hp', List.any_nil, Bool.or_false]
  refine wpP_then (L.here ?_)
  have tail : ∀ {t : Sem Value}, wpP M A t Q E s₁ → wpP M A (t >>= fun r => holding [r] point >>= fun _ => pure r) Q E s₁ :=
    fun ht => wpP_bind (wpP_mono ht (fun r s₂ hr => wpP_then (wpAny_holding (wpAny_point (wpP_pure hr)))) fun _ _ x => x)
  have marked (mk : Value) : wpP M A (callMarked mk f ([] ++ a.pos) a.kw) Q E s₁ := by unfold callMarked; exact wpP_keep h₁.2
  rcases hk' with rfl | rfl <;> dsimp only <;> first | exact tail h₁.2 | (split <;> first | exact tail h₁.2 | exact tail (marked _))
end
section
variable {M : Model} {A : Around} {s : Shared} {E : Value → Shared → Prop} {env : Env}
theorem Tuple_P {e : Expr} {rest : List Expr} {k : Nat} {pos : Pos} {Q : Value → Shared → Prop}
    (h : wpP M A (eval e env) (fun v s₁ => wpAny M A (spliced (backTo pos (starEach rest env))) (fun vs s₂ => wpAny M A (newTuple (v :: vs)) Q E s₂) E s₁) E s)
    (he : starEach (e :: rest) env = (false, eval e env) :: starEach rest env := by rfl) :
    wpP M A (eval (.Tuple (e :: rest) k pos) env) Q E s := by
  show wpP M A (do standAt pos; newTuple (← spliced (backTo pos (starEach (e :: rest) env)))) Q E s
  rw [he]
  refine wpP_then (wpAny_standAt (wpP_bind ?_))
  show wpP M A (spliced ((false, eval e env) :: backTo pos (starEach rest env))) _ E s
  rw [spliced]
  refine wpP_bind (wpP_mono h (fun v s₁ h₁ => ?_) fun _ _ x => x)
  simp only [Bool.false_eq_true, if_false]
  exact wpP_any (wpAny_bind (wpAny_pure (wpAny_bind (wpAny_holding (wpAny_mono h₁ (fun vs s₂ h₂ => wpAny_pure (wpP_any h₂)) fun _ _ x => x)))))
end

set_option maxHeartbeats 8000000 in
theorem next_tells (w : World) (loose : List Str) (mean : ExcName → Option Value) (mg mb : Str → Option Value) (x : Array UInt8) (t : Tok) (ks : List Int) (hk : KBw.bInts x = ks) (hx : 0 < ks.length) (hx8 : ks.length ≤ 8) :
    Tells Challenge.rw_ic0001_02.row.toRowW.prog w (Mine.hd.heap_39 w.params) Mine.hd.view_39 loose mean mg mb 44 3 40 [.bytes x t] (fun _ => True) (fun _ r => ∃ y t, r = .bytes y t ∧ KBw.bInts y = nxt ks) := by
  w_top off
  k_fill
  unfold Tells
  intro dp un fr gd s Q E X T hd hu _ hret
  have hks := bInts_in hk
  k_dflt (refine' enterC ?k1 ?k2 ?k3 ?k4 ?k5 ?k6 ?k7 ?k8 ?c1 ?c2 ?c3 ?_; (case k1 => assumption); (case k2 => assumption); (case k3 => k_is); (case k4 => k_is); (case k5 => ktr_room); (case k6 => first | exact BindsTo.of_eq rfl | exact binds_K (by k_in) rfl (by k_is) rfl rfl rfl); (case k7 => exact rfl); (case k8 => decide +kernel); (case c1 => exact rfl); (case c2 => exact rfl); (case c3 => exact rfl); k_whole; intro h' tk' cells' F' N' Y'; k_cells Y'; (try dsimp only); (try k_fold))
  k_steps
  refine hret _ _ _ (Fr.keep (by assumption)) ⟨_, _, rfl, (KBa.ints_make (by assumption)).trans ?_⟩
  exact next_eq hks hx

section
local macro_rules | `(tactic| walk_at "none of these") => `(tactic| skip)

theorem use_tells {prog : Program} {w : World} {K : Frag} {p : Program} {loose : List Str} {mean : ExcName → Option Value} {mg mb : Str → Option Value} {f : Addr} {d u : Nat} {vs : List Value} {pre : Heap → Prop} {R : Heap → Value → Prop}
    {A : Around} {h₀ : Heap} {L : Addr} {m : Str → Option Value} {news : List (Addr × Obj)} {s : Shared} {Q E : Value → Shared → Prop} (C : Tells prog w K p loose mean mg mb f d u vs pre R) (hh : A.handled = none)
    (F : Fr h₀ L s.heap m) (N : News h₀ L s.heap news) (X : K.In h₀) (T : Top p loose mean mg mb h₀) (hd : A.depth + d < recursionLimit) (hu : A.units + u < cLine) (hp : pre s.heap)
    (h : ∀ r h' k, Fr h₀ L h' m → News h₀ L h' news → R h' r → Q r { s with heap := h', toks := k }) : wpAny (model prog w) A (call (.ref f) vs) Q E s := by
  obtain ⟨hd', dp, fr, gd, un⟩ := A
  cases hh
  exact C dp un fr gd s Q E (X.keeps F.keep) (T.keeps F.keep) hd hu hp fun r h' tk' keep hr => h r h' tk' (F.keptAll keep) (N.grown keep) hr

local macro_rules | `(tactic| walk_at "call ref") => `(tactic| (k_here; (with_reducible show wpAny _ _ (call (Value.ref 44) [Value.bytes _ _]) _ _ _); k_dflt (refine' use_tells (next_tells _ _ _ _ _ _ _ _ ?hk ?h0 ?h8) ?hh ?F ?N ?X ?T ?d ?u ?p ?_; (case hk => first | assumption | exact rfl); (case h0 => omega); (case h8 => omega); (case hh => exact rfl); (case F => k_asm); (case N => k_asm); (case X => assumption); (case T => assumption); (case d => ktr_room); (case u => ktr_units); (case p => trivial)); intro r' h' k' F' N' hr'; obtain ⟨y', t', e9, e'⟩ := hr'; subst e9))
local macro_rules | `(tactic| walk_at "call builtin:max") => `(tactic| (k_here; (with_reducible show wpAny _ _ (call (Value.builtin _) [Value.bytes _ _]) _ _ _); k_dflt (refine' max_bytes ?F ?N ?hh ?hk ?h0 ?_; (case F => k_asm); (case N => k_asm); (case hh => exact rfl); (case hk => first | assumption | exact rfl); (case h0 => omega)); intro h' t' k' F' N'))

local macro_rules | `(tactic| walk_at "exec While BoolOp") => `(tactic| k_extra "exec While BoolOp cons nil")

/-- so many rings on -/
def iter : Nat → List Int → List Int
  | 0, ks => ks
  | n + 1, ks => nxt (iter n ks)
theorem iter_length (n : Nat) (ks : List Int) : (iter n ks).length = ks.length := by
  induction n with
  | zero => rfl
  | succ n ih => rw [iter, nxt_length, ih]

def SInv (ks r : List Int) (st : Int) : Prop := ∃ i : Nat, st = i ∧ i ≤ 90 ∧ r = iter i ks ∧ ∀ j, j < i → 0 < mx (iter j ks)
theorem SInv.start {ks : List Int} {x : Array UInt8} (h : KBw.bInts x = ks) : (KBw.bInts x).length = ks.length ∧ SInv ks (KBw.bInts x) 0 := by
  rw [h]; exact ⟨rfl, 0, rfl, by omega, rfl, fun j hj => absurd hj (Nat.not_lt_zero _)⟩
theorem SInv.turn {ks : List Int} {r y : Array UInt8} {st : Int} (hl : (KBw.bInts r).length = ks.length) (h : SInv ks (KBw.bInts r) st) (hp : 0 < mx (KBw.bInts r)) (hs : st < 90) (e : KBw.bInts y = nxt (KBw.bInts r)) :
    (KBw.bInts y).length = ks.length ∧ SInv ks (KBw.bInts y) (st + 1) := by
  obtain ⟨i, rfl, h1, h2, h3⟩ := h
  rw [e, nxt_length]
  refine ⟨hl, i + 1, by omega, by omega, by rw [h2]; rfl, fun j hj => ?_⟩
  rcases Nat.lt_succ_iff_lt_or_eq.mp hj with q | q
  · exact h3 j q
  · subst q; rw [← h2]; exact hp
theorem stepsTo_eq : ∀ (n i : Nat) (ks : List Int), i ≤ n → (∀ j, j < i → 0 < mx (iter j ks)) → (i = n ∨ ¬ 0 < mx (iter i ks)) → stepsTo n ks = i
  | 0, i, ks, h, _, _ => by have : i = 0 := by omega
                            subst this; rfl
  | n + 1, 0, ks, _, _, h3 => by
    have h4 : ¬ 0 < mx ks := h3.resolve_left (by omega)
    simp only [stepsTo, h4, if_false]
  | n + 1, i + 1, ks, h, h2, h3 => by
    have it : ∀ j, iter (j + 1) ks = iter j (nxt ks) := by
      intro j
      induction j with
      | zero => rfl
      | succ j ih => show nxt (iter (j + 1) ks) = nxt (iter j (nxt ks)); rw [ih]
    have h0 : 0 < mx ks := h2 0 (Nat.succ_pos _)
    have e := stepsTo_eq n i (nxt ks) (by omega) (fun j hj => by rw [← it]; exact h2 (j + 1) (by omega)) (by rw [← it]; exact h3.imp (fun q => by omega) id)
    simp only [stepsTo, h0, if_true, e]
theorem SInv.stop {ks r : List Int} {st : Int} (h : SInv ks r st) (hs : ¬ 0 < mx r ∨ ¬ st < 90) : st = (stepsTo 90 ks : Nat) := by
  obtain ⟨i, rfl, h1, h2, h3⟩ := h
  rw [stepsTo_eq 90 i ks h1 h3 ?_]
  rw [← h2]
  rcases hs with q | q
  · exact .inr q
  · left; omega

set_option maxHeartbeats 8000000 in
theorem steps_tells (w : World) (loose : List Str) (mean : ExcName → Option Value) (mg mb : Str → Option Value) (x : Array UInt8) (t : Tok) (ks : List Int) (hk : KBw.bInts x = ks) (hx : 0 < ks.length) (hx8 : ks.length ≤ 8) :
    Tells Challenge.rw_ic0001_02.row.toRowW.prog w (Mine.hd.heap_39 w.params) Mine.hd.view_39 loose mean mg mb 51 6 60 [.bytes x t] (fun _ => True) (fun _ r => ∃ (t : Tok), r = .int (stepsTo 90 ks : Nat) t) := by
  w_top off
  k_fill
  unfold Tells
  intro dp un fr gd s Q E X T hd hu _ hret
  k_dflt (refine' enter ?k1 ?k2 ?k3 ?k4 ?k5 ?k6 ?k7 ?c1 ?c2 ?c3 ?c4 ?_; (case k1 => assumption); (case k2 => assumption); (case k3 => k_is); (case k4 => k_is); (case k5 => ktr_room); (case k6 => first | exact BindsTo.of_eq rfl | exact binds_K (by k_in) rfl (by k_is) rfl rfl rfl); (case k7 => exact locs rfl); (case c1 => exact rfl); (case c2 => exact rfl); (case c3 => exact rfl); (case c4 => decide); k_whole; intro h' F' N'; (try dsimp only); (try k_fold))
  k_with "state" => first | exact SInv.start (by assumption) | exact SInv.turn (by assumption) (by assumption) (by assumption) (by assumption) (by assumption)
  k_with "exec While BoolOp cons nil" => k_while (fun _ r st => (KBw.bInts r).length = ks.length ∧ SInv ks (KBw.bInts r) st) (fun _ _ st => (90 - st).toNat) "ring" "steps"
  k_steps
  all_goals
    refine hret _ _ _ (Fr.keep (by assumption)) ?_
    have e := SInv.stop (by assumption) (by first | exact .inl (by assumption) | exact .inr (by assumption) | exact .inl (by omega) | exact .inr (by omega))
    exact ⟨_, congrArg (fun z => Value.int z _) e⟩

end
section
local macro_rules | `(tactic| walk_at "none of these") => `(tactic| skip)
local macro_rules | `(tactic| walk_at "none of these") => `(tactic| skip)
local macro_rules | `(tactic| walk_at "none of these") => `(tactic| skip)
local macro_rules | `(tactic| walk_at "none of these") => `(tactic| skip)
local macro_rules | `(tactic| walk_at "none of these") => `(tactic| skip)

/-- so many lie below -/
def below (ns : List Int) (x : Int) : Nat := (ns.filter fun n => decide (n < x)).length

def BI (ns : List Int) (x lo hi : Int) : Prop := (∀ k : Nat, (k : Int) < lo → ns.getD k 0 < x) ∧ (∀ k : Nat, hi ≤ (k : Int) → k < ns.length → ¬ ns.getD k 0 < x)
theorem below_eq : ∀ (ns : List Int) (x : Int) (i : Nat), i ≤ ns.length → (∀ k : Nat, k < i → ns.getD k 0 < x) → (∀ k : Nat, i ≤ k → k < ns.length → ¬ ns.getD k 0 < x) → below ns x = i
  | [], x, i, h, _, _ => by simp at h; subst h; rfl
  | n :: ns, x, 0, h, h1, h2 => by
    have e := below_eq ns x 0 (Nat.zero_le _) (fun k hk => absurd hk (Nat.not_lt_zero _)) fun k _ hl => h2 (k + 1) (Nat.zero_le _) (Nat.succ_lt_succ hl)
    have h3 : ¬ n < x := h2 0 (Nat.le_refl _) (Nat.succ_pos _)
    simp only [below, List.filter_cons, decide_eq_true_eq, h3, if_false] at e ⊢
    exact e
  | n :: ns, x, i + 1, h, h1, h2 => by
    have e := below_eq ns x i (Nat.le_of_succ_le_succ h) (fun k hk => h1 (k + 1) (Nat.succ_lt_succ hk)) fun k hk hl => h2 (k + 1) (Nat.succ_le_succ hk) (Nat.succ_lt_succ hl)
    have h3 : n < x := h1 0 (Nat.succ_pos _)
    simp only [below, List.filter_cons, decide_eq_true_eq, h3, if_true, List.length_cons] at e ⊢
    rw [e]
theorem BI.start (ns : List Int) (x : Int) : (0 : Int) ≤ 0 ∧ (0 : Int) ≤ (ns.length : Nat) ∧ ((ns.length : Nat) : Int) ≤ ns.length ∧ BI ns x 0 ns.length :=
  ⟨by omega, by omega, by omega, fun k hk => by omega, fun k hk hl => by omega⟩
theorem BI.up {ns : List Int} {x lo hi : Int} (hs : ns.Pairwise (· ≤ ·)) (h : BI ns x lo hi) (h0 : 0 ≤ lo) (h1 : hi ≤ ns.length) (h2 : lo < hi) (h3 : ns.getD (Int.fdiv (lo + hi) 2).toNat 0 < x) :
    0 ≤ Int.fdiv (lo + hi) 2 + 1 ∧ Int.fdiv (lo + hi) 2 + 1 ≤ hi ∧ hi ≤ ns.length ∧ BI ns x (Int.fdiv (lo + hi) 2 + 1) hi := by
  rw [Int.fdiv_eq_ediv_of_nonneg _ (by decide)] at h3 ⊢
  exact ⟨by omega, by omega, h1, fun k hk => Int.lt_of_le_of_lt (sorted_getD_le hs (by omega) (by omega)) h3, h.2⟩
theorem BI.down {ns : List Int} {x lo hi : Int} (hs : ns.Pairwise (· ≤ ·)) (h : BI ns x lo hi) (h0 : 0 ≤ lo) (h1 : hi ≤ ns.length) (h2 : lo < hi) (h3 : ¬ ns.getD (Int.fdiv (lo + hi) 2).toNat 0 < x) :
    0 ≤ lo ∧ lo ≤ Int.fdiv (lo + hi) 2 ∧ Int.fdiv (lo + hi) 2 ≤ ns.length ∧ BI ns x lo (Int.fdiv (lo + hi) 2) := by
  rw [Int.fdiv_eq_ediv_of_nonneg _ (by decide)] at h3 ⊢
  exact ⟨h0, by omega, by omega, h.1, fun k hk hl hlt => h3 (Int.lt_of_le_of_lt (sorted_getD_le hs (by omega) hl) hlt)⟩
theorem BI.m1 {lo hi : Int} (h2 : lo < hi) : (hi - (Int.fdiv (lo + hi) 2 + 1)).toNat < (hi - lo).toNat := by
  rw [Int.fdiv_eq_ediv_of_nonneg _ (by decide)]; omega
theorem BI.m2 {lo hi : Int} (h2 : lo < hi) : (Int.fdiv (lo + hi) 2 - lo).toNat < (hi - lo).toNat := by
  rw [Int.fdiv_eq_ediv_of_nonneg _ (by decide)]; omega
theorem BI.stop {ns : List Int} {x lo hi : Int} (h : BI ns x lo hi) (h0 : 0 ≤ lo) (h1 : hi ≤ ns.length) (h2 : lo ≤ hi) (h3 : ¬ lo < hi) : lo = (below ns x : Int) := by
  have e : lo = hi := by omega
  subst e
  have := below_eq ns x lo.toNat (by omega) (fun k hk => h.1 k (by omega)) (fun k hk hl => h.2 k (by omega) hl)
  omega

local macro_rules | `(tactic| walk_at "exec While Compare") => `(tactic| k_extra "exec While Compare cons nil")
set_option maxHeartbeats 8000000 in
theorem bisect2_tells (w : World) (loose : List Str) (mean : ExcName → Option Value) (mg mb : Str → Option Value) (a : Addr) (vs : List Value) (ns : List Int) (x : Int) (u : Tok) (hI : IntsAre vs ns) (hs : ns.Pairwise (· ≤ ·)) (hz : ns.length ≤ 1000) :
    Tells Challenge.rw_ic0001_02.row.toRowW.prog w (Mine.hd.heap_39 w.params) Mine.hd.view_39 loose mean mg mb 39 3 40 [.ref a, .int x u] (fun h => h.IsList a vs.toArray) (fun _ r => ∃ t, r = .int (below ns x : Nat) t) := by
  w_top off
  k_fill
  unfold Tells
  intro dp un fr gd s Q E X T hd hu hl hret
  k_dflt (refine' enter ?k1 ?k2 ?k3 ?k4 ?k5 ?k6 ?k7 ?c1 ?c2 ?c3 ?c4 ?_; (case k1 => assumption); (case k2 => assumption); (case k3 => k_is); (case k4 => k_is); (case k5 => ktr_room); (case k6 => exact kp_binds (by k_in) (fun _ => rfl)); (case k7 => exact locs rfl); (case c1 => exact rfl); (case c2 => exact rfl); (case c3 => exact rfl); (case c4 => decide); k_whole; intro h' F' N'; (try dsimp only); (try k_fold))
  k_with "state" => first | exact BI.start _ _ | exact BI.up (by assumption) (by assumption) (by assumption) (by assumption) (by assumption) (by assumption) | exact BI.down (by assumption) (by assumption) (by assumption) (by assumption) (by assumption) (by assumption)
  k_with "measure" => first | exact BI.m1 (by assumption) | exact BI.m2 (by assumption)
  k_with "exec While Compare cons nil" => k_while (fun _ lo hi => 0 ≤ lo ∧ lo ≤ hi ∧ hi ≤ (ns.length : Int) ∧ BI ns x lo hi) (fun _ lo hi => (hi - lo).toNat) "lo" "hi"
  k_steps
  refine hret _ _ _ (Fr.keep (by assumption)) ⟨_, congrArg (fun z => Value.int z _) (BI.stop (by assumption) (by assumption) (by assumption) (by assumption) (by assumption))⟩

end
section
local macro_rules | `(tactic| walk_at "none of these") => `(tactic| skip)
local macro_rules | `(tactic| walk_at "none of these") => `(tactic| skip)
local macro_rules | `(tactic| walk_at "none of these") => `(tactic| skip)
local macro_rules | `(tactic| walk_at "none of these") => `(tactic| skip)
local macro_rules | `(tactic| walk_at "none of these") => `(tactic| skip)
local macro_rules | `(tactic| walk_at "none of these") => `(tactic| skip)
local macro_rules | `(tactic| walk_at "none of these") => `(tactic| skip)

set_option maxHeartbeats 8000000 in
theorem bisect4_tells (w : World) (loose : List Str) (mean : ExcName → Option Value) (mg mb : Str → Option Value) (a : Addr) (vs : List Value) (ns : List Int) (x : Int) (u u' : Tok) (hI : IntsAre vs ns) (hs : ns.Pairwise (· ≤ ·)) (hz : ns.length ≤ 1000) :
    Tells Challenge.rw_ic0001_02.row.toRowW.prog w (Mine.hd.heap_39 w.params) Mine.hd.view_39 loose mean mg mb 39 3 40 [.ref a, .int x u, .int 0 u', .none] (fun h => h.IsList a vs.toArray) (fun _ r => ∃ t, r = .int (below ns x : Nat) t) := by
  w_top off
  k_fill
  unfold Tells
  intro dp un fr gd s Q E X T hd hu hl hret
  k_dflt (refine' enter ?k1 ?k2 ?k3 ?k4 ?k5 ?k6 ?k7 ?c1 ?c2 ?c3 ?c4 ?_; (case k1 => assumption); (case k2 => assumption); (case k3 => k_is); (case k4 => k_is); (case k5 => ktr_room); (case k6 => exact kp_binds (by k_in) (fun _ => rfl)); (case k7 => exact locs rfl); (case c1 => exact rfl); (case c2 => exact rfl); (case c3 => exact rfl); (case c4 => decide); k_whole; intro h' F' N'; (try dsimp only); (try k_fold))
  k_with "state" => first | exact BI.start _ _ | exact BI.up (by assumption) (by assumption) (by assumption) (by assumption) (by assumption) (by assumption) | exact BI.down (by assumption) (by assumption) (by assumption) (by assumption) (by assumption) (by assumption)
  k_with "measure" => first | exact BI.m1 (by assumption) | exact BI.m2 (by assumption)
  k_with "exec While Compare cons nil" => k_while (fun _ lo hi => 0 ≤ lo ∧ lo ≤ hi ∧ hi ≤ (ns.length : Int) ∧ BI ns x lo hi) (fun _ lo hi => (hi - lo).toNat) "lo" "hi"
  k_steps
  refine hret _ _ _ (Fr.keep (by assumption)) ⟨_, congrArg (fun z => Value.int z _) (BI.stop (by assumption) (by assumption) (by assumption) (by assumption) (by assumption))⟩

section
variable {prog : Program} {w : World} {A : Around} {s : Shared} {K : Frag} {E : Value → Shared → Prop} {Q : Value → Shared → Prop}
  {p : Program} {loose : List Str} {mean : ExcName → Option Value} {mg mb : Str → Option Value}
  {name qual : Str} {params : Arguments} {body : List Stmt} {scope : Scope} {dV kV doc pm cdv ct oc : Value} {an od : Option Addr} {osl : Array (Option Value)} {f : Addr} {vs : List Value} {kw : List (Str × Value)} {binds : List (Str × Value)}

/-- a call that may change one elder object -/
theorem enterM {h₀ : Heap} {D : Addr} {oD : Obj} (keep : ∀ b o, h₀.get? b = some o → s.heap.get? b = some o) (X : K.In h₀) (T : Top p loose mean mg mb h₀) (hD0 : h₀.get? D = none) (hD : s.heap.get? D = some oD)
    (ho : K.lookup f = some ⟨oc, od, .func (fnOf name qual params body scope dV kV doc pm an cdv ct), osl⟩) (hcd : codeIn K cdv qual = true) (hroom : A.depth < recursionLimit)
    (hbind : K.In s.heap → BindsTo s (fnOf name qual params body scope dV kV doc pm an cdv ct) ⟨vs, kw⟩ binds) (hloc : ∀ y ∈ binds, scope.names.lookup y.1 = some .local)
    (hco : scope.isCoroutine = false) (hgen : scope.isGenerator = false) (hk : scope.kind = .function)
    (hcell : ∀ x ∈ scope.names, x.2 ≠ .cell)
    (h : ∀ g h₁, (∀ b o, b ≠ D → s.heap.get? b = some o → g.get? b = some o) → K.In g → Top p loose mean mg mb g → Fr g s.heap.objs.size h₁ (fun y => binds.reverse.lookup y) → News g s.heap.objs.size h₁ [(D, oD)] →
      wpAny (model prog w) (A.deeper (envOf qual scope s.heap.objs.size f cdv)) (execs body (envOf qual scope s.heap.objs.size f cdv))
        (fun fl s' => Q (retOf fl) s') (fun _ _ => False) { s with heap := h₁, toks := s.toks + binds.length }) :
    wpAny (model prog w) A (call (.ref f) vs kw) Q E s := by
  have Xs := X.keeps keep
  have Ts := T.keeps keep
  refine wpAny_call (codeAny_call_def (fd := fnX name qual params body scope [] dV kV doc pm an cdv ct) (body := body) (binds := binds) hroom (Xs _ _ ho) rfl Ts.nolimit (codeRec_of Xs hcd) rfl (hbind Xs) hcell hloc (fun h₁ hns hk₁ => ?_) hco hgen hk)
  have st : ∀ b o, h₀.get? b = some o → (hideAll s.heap [D]).get? b = some o := fun b o e => hideAll_get _ (keep b o e) fun q => by rw [List.mem_singleton.mp q, hD0] at e; cases e
  refine wpAny_mono (h (hideAll s.heap [D]) h₁ (fun b o hb e => hideAll_get _ e fun q => hb (List.mem_singleton.mp q)) (X.keeps st) (T.keeps st)
    ⟨hns, fun b o e => hk₁ b o (of_hideAll _ e), Nat.le_of_eq (hideAll_size _ _)⟩ fun q hq => ?_) (fun fl s' hl => by cases fl <;> exact hl) (fun _ _ x => x.elim)
  rw [List.mem_singleton.mp hq]
  exact ⟨hk₁ _ _ hD, Nat.ne_of_lt (Heap.lt_size hD), hideAll_none _ (List.mem_singleton.mpr rfl)⟩
end

local macro_rules | `(tactic| walk_at "call ref") => `(tactic| (k_here; (with_reducible show wpAny _ _ (call (Value.ref 39) [Value.ref _, Value.int _ _, Value.int _ _, Value.none]) _ _ _); k_dflt (refine' use_tells (bisect4_tells _ _ _ _ _ _ _ _ _ _ _ ?hI ?hs ?hz) ?hh ?F ?N ?X ?T ?d ?u ?p ?_; (case hI => assumption); (case hs => assumption); (case hz => assumption); (case hh => exact rfl); (case F => k_asm); (case N => k_asm); (case X => assumption); (case T => assumption); (case d => ktr_room); (case u => ktr_units); (case p => exact News.isList (by k_asm) (by k_mem))); intro r' h' k' F' N' hr'; obtain ⟨t', e9⟩ := hr'; subst e9))
local macro_rules | `(tactic| walk_at "call builtin:list.insert") => `(tactic| (k_here; (with_reducible show wpAny _ _ (call (Value.builtin _) [Value.ref _, Value.int _ _, _]) _ _ _); k_dflt (refine' kl_insert ?F ?N ?f rfl ?U ?z ?_; (case F => k_asm); (case N => k_asm); (case U => k_upd); (case f => (simp only [Builtin.List.listFitsIndex, Bool.and_eq_true, decide_eq_true_eq]; omega)); (case z => (rw [sizeLine_eq, List.toList_toArray]; omega))); intro h' F' N'))

set_option maxHeartbeats 8000000 in
theorem insort_tells (w : World) (loose : List Str) (mean : ExcName → Option Value) (mg mb : Str → Option Value) (D : Addr) (vs : List Value) (n : Nat) (ns : List Int) (x : Int) (u : Tok) (hI : IntsAre vs ns) (hs : ns.Pairwise (· ≤ ·)) (hz : ns.length ≤ 1000) :
    ∀ (dp un : Nat) (fr : Option (List Env)) (gd : Option (List Code)) (h₀ : Heap) (s : Shared) (Q E : Value → Shared → Prop),
    (∀ b o, h₀.get? b = some o → s.heap.get? b = some o) → (Mine.hd.heap_39 w.params).In h₀ → Top Mine.hd.view_39 loose mean mg mb h₀ → h₀.get? D = none → s.heap.get? D = some (PySem.W.listOf vs.toArray n) → dp + 6 < recursionLimit → un + 60 < cLine →
    (∀ h' tk', (∀ b o, b ≠ D → s.heap.get? b = some o → h'.get? b = some o) → h'.get? D = some (PySem.W.listOf (kl_ins vs (below ns x) (.int x u)).toArray (n + 1)) → Q .none { s with heap := h', toks := tk' }) →
    wpAny (model Challenge.rw_ic0001_02.row.toRowW.prog w) (around dp un fr gd) (call (.ref 30) [.ref D, .int x u]) Q E s := by
  w_top off
  k_fill
  intro dp un fr gd h₀ s Q E keep X T hD0 hD hd hu hret
  have hlen := hI.length
  have hb : below ns x ≤ ns.length := List.length_filter_le ..
  k_dflt (refine' enterM ?k0 ?k1 ?k2 ?kd ?kD ?k3 ?k4 ?k5 ?k6 ?k7 ?c1 ?c2 ?c3 ?c4 ?_; (case k0 => assumption); (case k1 => assumption); (case k2 => assumption); (case kd => assumption); (case kD => assumption); (case k3 => k_is); (case k4 => k_is); (case k5 => ktr_room); (case k6 => (intro Xs; exact kp_binds Xs (fun _ => rfl))); (case k7 => exact locs rfl); (case c1 => exact rfl); (case c2 => exact rfl); (case c3 => exact rfl); (case c4 => decide); k_whole; intro g' h' kg' Xg' Tg' F' N'; (try dsimp only); (try k_fold))
  k_steps
  (with_reducible rename Fr _ _ _ _ => F9); (with_reducible rename News _ _ _ _ => N9)
  exact hret _ _ (fun b o hb e => F9.keep b o (kg' b o hb e)) (N9 _ (List.mem_singleton.mpr rfl)).1

/-- x laid into its place -/
def insS (ns : List Int) (x : Int) : List Int := ns.take (below ns x) ++ x :: ns.drop (below ns x)
theorem insS_perm (ns : List Int) (x : Int) : (insS ns x).Perm (x :: ns) := by
  unfold insS
  refine List.perm_middle.trans (List.Perm.cons x ?_)
  rw [List.take_append_drop]
theorem insS_length (ns : List Int) (x : Int) : (insS ns x).length = ns.length + 1 := by rw [(insS_perm ns x).length_eq]; rfl
theorem below_nil_of {x : Int} : ∀ {ns : List Int}, (∀ y ∈ ns, x ≤ y) → below ns x = 0
  | [], _ => rfl
  | n :: ns, h => by
    have h1 : ¬ n < x := Int.not_lt.mpr (h n (List.mem_cons_self ..))
    have := below_nil_of (ns := ns) fun y hy => h y (List.mem_cons_of_mem _ hy)
    simp only [below, List.filter_cons, decide_eq_true_eq, h1, if_false] at this ⊢
    exact this
theorem insS_sorted : ∀ {ns : List Int} {x : Int}, ns.Pairwise (· ≤ ·) → (insS ns x).Pairwise (· ≤ ·)
  | [], x, _ => by simp [insS]
  | n :: ns, x, h => by
    obtain ⟨h1, h2⟩ := List.pairwise_cons.mp h
    by_cases hn : n < x
    · have e : insS (n :: ns) x = n :: insS ns x := by
        unfold insS
        have : below (n :: ns) x = below ns x + 1 := by simp [below, hn]
        rw [this]; rfl
      rw [e]
      refine List.pairwise_cons.mpr ⟨fun y hy => ?_, insS_sorted h2⟩
      rcases List.mem_cons.mp ((insS_perm ns x).mem_iff.mp hy) with rfl | hy
      · exact Int.le_of_lt hn
      · exact h1 y hy
    · have e : insS (n :: ns) x = x :: n :: ns := by
        unfold insS
        rw [below_nil_of (fun y hy => ?_)]
        · rfl
        · rcases List.mem_cons.mp hy with rfl | hy
          · omega
          · have := h1 y hy; omega
      rw [e]
      refine List.pairwise_cons.mpr ⟨fun y hy => ?_, h⟩
      rcases List.mem_cons.mp hy with rfl | hy
      · omega
      · have := h1 y hy; omega
theorem ins_ints {vs : List Value} {ns : List Int} {x : Int} {u : Tok} (hI : IntsAre vs ns) : IntsAre (kl_ins vs (below ns x) (.int x u)) (insS ns x) := by
  have hb : below ns x ≤ ns.length := List.length_filter_le ..
  have hl := hI.length
  have e : (if ((below ns x : Nat) : Int) < 0 then (((below ns x : Nat) : Int) + (vs.length : Int)).toNat else min ((below ns x : Nat) : Int).toNat vs.length) = below ns x := by
    rw [if_neg (by omega)]; omega
  unfold kl_ins insS
  rw [e]
  exact (hI.take _).append (.cons x u (hI.drop _))

section
variable {h₀ : Heap} {L D : Addr} {m : Str → Option Value} {news : List (Addr × Obj)} {news' : List Value → List (Addr × Obj)} {s : Shared} {A : Around}
theorem insort_K {w : World} {loose : List Str} {mean : ExcName → Option Value} {mg mb : Str → Option Value} {vs : List Value} {n : Nat} {ns : List Int} {x : Int} {u : Tok} {Q E : Value → Shared → Prop}
    (F : Fr h₀ L s.heap m) (N : News h₀ L s.heap news) (U : ∀ ws, Upd D (PySem.W.listOf vs.toArray n) (PySem.W.listOf ws.toArray (n + 1)) news (news' ws)) (X : (Mine.hd.heap_39 w.params).In h₀) (T : Top Mine.hd.view_39 loose mean mg mb h₀)
    (hI : IntsAre vs ns) (hs : ns.Pairwise (· ≤ ·)) (hz : ns.length ≤ 1000) (hh : A.handled = none) (hd : A.depth + 6 < recursionLimit) (hu : A.units + 60 < cLine)
    (h : ∀ ws h' k, Fr h₀ L h' m → News h₀ L h' (news' ws) → IntsAre ws (insS ns x) → (insS ns x).Pairwise (· ≤ ·) → (insS ns x).length = ns.length + 1 → Q .none { s with heap := h', toks := k }) :
    wpAny (model Challenge.rw_ic0001_02.row.toRowW.prog w) A (call (.ref 30) [.ref D, .int x u]) Q E s := by
  obtain ⟨hd', dp, fr, gd, un⟩ := A
  cases hh
  obtain ⟨pre, post, e1, e2, a, b⟩ := (U (kl_ins vs (below ns x) (.int x u))).split
  have N1 := N
  rw [e1] at N1
  have z := N1 (D, PySem.W.listOf vs.toArray n) (List.mem_append.mpr (.inr (.head _)))
  refine insort_tells w loose mean mg mb D vs n ns x u hI hs hz dp un fr gd h₀ s Q E (fun b o e => F.keep b o e) X T z.2.2 z.1 hd hu fun h' tk' keep hD => ?_
  have ne : ∀ b o, h₀.get? b = some o → b ≠ D := fun b o e q => by rw [q, z.2.2] at e; cases e
  refine h (kl_ins vs (below ns x) (.int x u)) h' tk' ?_ ?_ (ins_ints hI) (insS_sorted hs) (insS_length ns x)
  · obtain ⟨oL, x1, x2, hL, x3⟩ := F.ns
    exact ⟨⟨oL, x1, x2, keep _ _ (Ne.symm z.2.1) hL, x3⟩, fun b o e => keep b o (ne b o e) (F.keep b o e), F.above⟩
  · rw [e2]
    intro q hq
    rcases List.mem_append.mp hq with hq | hq
    · have y := N1 q (List.mem_append.mpr (.inl hq))
      exact ⟨keep _ _ (a q hq) y.1, y.2⟩
    · rcases List.mem_cons.mp hq with rfl | hq
      · exact ⟨hD, z.2⟩
      · have y := N1 q (List.mem_append.mpr (.inr (.tail _ hq)))
        exact ⟨keep _ _ (b q hq) y.1, y.2⟩
end

end
section
open LCg LCt

section
variable {prog : Program} {w : World} {A : Around} {E : Value → Shared → Prop} {s : Shared} {h₀ : Heap} {L : Addr} {m : Str → Option Value} {env : Env}

theorem bytes_W (hh : A.handled = none) (I : Addr) (b : Array UInt8) (t : Tok) {ks : List Int} (hk : KBw.bInts b = ks) :
    Walks prog w A I [I] [I] ks.length (fun i v => ∃ k t, ks[i]? = some k ∧ v = .int k t) (fun i h => KBw.IsBytesIter h I b t i) := by
  subst hk
  rw [KBw.ints_length]
  have W := KBw.walks (prog := prog) (w := w) hh I b t
  exact { sub := W.sub, frame := W.frame, done := W.done, self := W.self,
          item := fun i s Q E hi st hQ => W.item i s Q E hi st fun v h' tk hP => hQ v h' tk (by obtain ⟨c, u, hc, rfl⟩ := hP; exact ⟨_, u, KBw.ints_get hc, rfl⟩) }
theorem bytes_st {I : Addr} {b : Array UInt8} {t : Tok} : ∀ i (h h' : Heap) (o : Obj) (nw : List (Addr × Obj)), KBw.IsBytesIter h I b t i → h.get? I = some o → h'.get? I = some o → (∀ b o, h₀.get? b = some o → h'.get? b = some o) → News h₀ L h' nw → True → KBw.IsBytesIter h' I b t i :=
  fun i h h' o nw st e e' _ _ _ => by
    obtain ⟨o', q, r⟩ := st
    rw [e] at q; cases q
    exact ⟨o, e', r⟩

def CompSrcB (prog : Program) (w : World) (A : Around) (h₀ : Heap) (L : Addr) (m : Str → Option Value) (env : Env) (elt : Expr) (x : Str) (scope : Scope) (cl : List (Str × Addr)) (Fin : Shared → List Value → List (Addr × Obj) → Prop) (xv : Value) (s₁ : Shared) : Prop :=
  ∃ b t ks news, xv = .bytes b t ∧ A.handled = none ∧ Fr h₀ L s₁.heap m ∧ News h₀ L s₁.heap news ∧ KBw.bInts b = ks ∧ ks.length ≤ sizeLine ∧
    ∀ s₂ : Shared, (∃ h, s₂ = { s₁ with heap := h }) → CompRest prog w A h₀ L m env elt x scope cl s₂ (fun _ => True) (fun i v => ∃ k t, ks[i]? = some k ∧ v = .int k t) (Fin s₂) ks.length 0 [] news
theorem CompSrcB.map {elt : Expr} {x : Str} {scope : Scope} {cl : List (Str × Addr)} {Fin : Shared → List Value → List (Addr × Obj) → Prop} {b : Array UInt8} {t : Tok} {ks : List Int} {news : List (Addr × Obj)} {s₁ : Shared} (g : Int → Int)
    (hh : A.handled = none) (F : Fr h₀ L s₁.heap m) (N : News h₀ L s₁.heap news) (hk : KBw.bInts b = ks) (hsz : ks.length ≤ sizeLine)
    (turn : ∀ gh k t I oI C oC D m₂ ys h tk (E' : Value → Shared → Prop), k ∈ ks → LCg.NsObj oC m₂ → m₂ x = some (.int k t) → Fr h₀ L h m → News h₀ L h ((I, oI) :: (C, oC) :: (D, LCg.lst ys) :: news) → LCg.Off3 I C D news → ((@Ne Nat I C) ∧ (@Ne Nat I D) ∧ (@Ne Nat C D)) → KPfMark →
      wpAny (model prog w) A (eval elt (compEnvC scope cl C env)) (LCg.CompEnd h₀ L m { { s₁ with heap := gh } with heap := h, toks := tk } I oI C oC D (LCg.lst ys) (fun _ => True) (fun y news' => KCfEl news (g k) y news')) E' { { s₁ with heap := gh } with heap := h, toks := tk })
    (fin : ∀ gh, KPfDone (∀ ys, IntsAre ys (ks.map g) → Fin { s₁ with heap := gh } ys news)) : CompSrcB prog w A h₀ L m env elt x scope cl Fin (.bytes b t) s₁ :=
  ⟨b, t, ks, news, rfl, hh, F, N, hk, hsz, fun _ ⟨gh, e⟩ => e ▸ kcf_rest g rfl (fun _ _ _ h => h) (turn gh) (fin gh)⟩

theorem ListComp_B {elt iter : Expr} {x : Str} {px : Pos} {scope : Scope} {cl : List (Str × Addr)} {pos : Pos} {Q : Value → Shared → Prop} (F₀ : Fr h₀ L s.heap m)
    (hclos : closureFor scope env = pure cl) (hcell : ∀ y ∈ scope.names, y.2 ≠ .cell) (hkind : scope.kind = .function)
    (hnames : ∀ y ∈ scope.names, y.2 = .local → scope.names.lookup y.1 = some .local) (hx : scope.names.lookup x = some .local)
    (h : wpAny (model prog w) A (eval iter env) (CompSrcB prog w A h₀ L m env elt x scope cl (fun s₂ => FinE h₀ L m s₂ Q)) E s)
    (hs : ∀ x, foldedSetIterable iter env x = pure x := by intro _; rfl) :
    wpAny (model prog w) A (eval (.ListComp elt [⟨.Name x px, iter, [], 0⟩] scope pos) env) Q E s := by
  rw [eval_ListComp]
  refine wpAny_comprehension_free (use := none) rfl hs hclos hkind hnames (wpAny_mono h (fun xv s₁ h₁ => ?_) fun _ _ e => e)
  obtain ⟨b, t, ks, news, rfl, hh, F, N, hk, hsz, R⟩ := h₁
  refine KBw.pyIter_bytes ?_
  refine block_U (bytes_W hh s₁.heap.objs.size b t hk) hsz (fun i h st => let ⟨o, ho, _⟩ := st; ⟨o, ho⟩) bytes_st hcell hkind hx ⟨_, Heap.get?_push_size _ rfl, rfl, rfl⟩ (fun b hb => ?_)
    (F.keeps fun _ _ e => Heap.get?_push_of_some _ e) (N.grown fun _ _ e => Heap.get?_push_of_some _ e) (Nat.ne_of_lt F.ns.lt) (next_is_new F) (fun p hp => Nat.ne_of_lt (Heap.lt_size (N p hp).1)) trivial (R _ ⟨_, rfl⟩) ?_
  · rw [List.mem_singleton.mp hb]
    show s₁.heap.objs.size < (s₁.heap.push _).objs.size
    rw [Heap.size_push]; exact Nat.lt_succ_self _
  · intro D C h tk m' ys news' F' N' o1 hn hC₀ hD₀ hCL hDL hCD offC fin
    refine ⟨m', hn, fun h'' hs'' => fin D h'' tk (F'.change hs'' hCL hC₀) (fun p hp => ?_) o1⟩
    refine ⟨hs''.extBut _ _ ?_ (N' p hp).1, (N' p hp).2⟩
    rcases List.mem_cons.mp hp with rfl | hp
    · exact Ne.symm hCD
    · exact offC p hp

def CompSrcF (prog : Program) (w : World) (A : Around) (h₀ : Heap) (L : Addr) (m : Str → Option Value) (env : Env) (ct elt : Expr) (x : Str) (scope : Scope) (cl : List (Str × Addr)) (Fin : Shared → List Value → List (Addr × Obj) → Prop) (xv : Value) (s₁ : Shared) : Prop :=
  ∃ b t ks news, xv = .bytes b t ∧ A.handled = none ∧ Fr h₀ L s₁.heap m ∧ News h₀ L s₁.heap news ∧ KBw.bInts b = ks ∧ ks.length ≤ sizeLine ∧
    ∀ s₂ : Shared, (∃ h, s₂ = { s₁ with heap := h }) → CompRestT prog w A h₀ L m env ct elt x scope cl s₂ (fun _ => True) (fun i v => ∃ k t, ks[i]? = some k ∧ v = .int k t) (Fin s₂) ks.length 0 [] news
theorem CompSrcF.filter {ct elt : Expr} {x : Str} {scope : Scope} {cl : List (Str × Addr)} {Fin : Shared → List Value → List (Addr × Obj) → Prop} {b : Array UInt8} {t : Tok} {ks : List Int} {news : List (Addr × Obj)} {s₁ : Shared} (q : Int → Bool)
    (hh : A.handled = none) (F : Fr h₀ L s₁.heap m) (N : News h₀ L s₁.heap news) (hk : KBw.bInts b = ks) (hsz : ks.length ≤ sizeLine)
    (turn : ∀ gh k t I oI C oC D m₂ ys l h tk (E' : Value → Shared → Prop), k ∈ ks → IntsAre ys l → LCg.NsObj oC m₂ → m₂ x = some (.int k t) → Fr h₀ L h m → News h₀ L h ((I, oI) :: (C, oC) :: (D, LCg.lst ys) :: news) → LCg.Off3 I C D news → ((@Ne Nat I C) ∧ (@Ne Nat I D) ∧ (@Ne Nat C D)) → KPfMark →
      wpAny (model prog w) A (isTrue ct (compEnvC scope cl C env) (eval ct (compEnvC scope cl C env))) (fun b s' => b = q k ∧ if b = true then wpAny (model prog w) A (eval elt (compEnvC scope cl C env)) (LCg.CompEnd h₀ L m { { s₁ with heap := gh } with heap := h, toks := tk } I oI C oC D (LCg.lst ys) (fun _ => True) (fun y news' => news' = news ∧ ∃ t, y = .int k t)) E' s'
        else LCg.CompEnd h₀ L m { { s₁ with heap := gh } with heap := h, toks := tk } I oI C oC D (LCg.lst ys) (fun _ => True) (fun _ news' => news' = news) Value.none s') E' { { s₁ with heap := gh } with heap := h, toks := tk })
    (fin : ∀ gh, KPfDone (∀ ys, IntsAre ys (ks.filter q) → ys.length ≤ ks.length → Fin { s₁ with heap := gh } ys news)) : CompSrcF prog w A h₀ L m env ct elt x scope cl Fin (.bytes b t) s₁ :=
  ⟨b, t, ks, news, rfl, hh, F, N, hk, hsz, fun _ ⟨gh, e⟩ => e ▸ by
    have hf : ∀ (ks l : List Int), ks.foldl (fun l k => if q k = true then l ++ [k] else l) l = l ++ ks.filter q := by
      intro ks
      induction ks with
      | nil => intro l; simp
      | cons k ks ih =>
        intro l
        rw [List.foldl_cons, ih, List.filter_cons]
        by_cases hq : q k = true
        · simp [hq]
        · simp [hq]
    refine kci_rest (fun l k => if q k = true then l ++ [k] else l) rfl (fun _ _ _ h => h) (fun k t I oI C oC D m₂ ys l h tk E' a1 a2 a3 a4 a5 a6 a7 a8 a9 => ?_) (by intro ys hy hl; exact fin gh ys (by rw [hf] at hy; simpa using hy) hl) (by intro l k; dsimp only; split <;> simp)
    refine wpAny_mono (turn gh k t I oI C oC D m₂ ys l h tk E' a1 a2 a3 a4 a5 a6 a7 a8 a9) (fun b s' hb => ?_) fun _ _ x => x
    obtain ⟨hb, hr⟩ := hb
    cases b with
    | true =>
      simp only [if_true] at hr ⊢
      refine wpAny_mono hr (fun y s₃ hc => ?_) fun _ _ x => x
      obtain ⟨h', tk', nw, e, F', N', off', hS, hn, t', hy⟩ := hc
      exact ⟨h', tk', nw, e, F', N', off', hS, hn, k, t', hy, by rw [if_pos hb.symm]⟩
    | false =>
      simp only [Bool.false_eq_true, if_false] at hr ⊢
      obtain ⟨h', tk', nw, e, F', N', off', hS, hn⟩ := hr
      exact ⟨h', tk', nw, e, F', N', off', hS, hn, by rw [if_neg (by rw [← hb]; exact Bool.false_ne_true)]⟩⟩

theorem ListComp_F {ct elt iter : Expr} {x : Str} {px : Pos} {scope : Scope} {cl : List (Str × Addr)} {pos : Pos} {Q : Value → Shared → Prop} (F₀ : Fr h₀ L s.heap m)
    (hclos : closureFor scope env = pure cl) (hcell : ∀ y ∈ scope.names, y.2 ≠ .cell) (hkind : scope.kind = .function)
    (hnames : ∀ y ∈ scope.names, y.2 = .local → scope.names.lookup y.1 = some .local) (hx : scope.names.lookup x = some .local)
    (h : wpAny (model prog w) A (eval iter env) (CompSrcF prog w A h₀ L m env ct elt x scope cl (fun s₂ => FinE h₀ L m s₂ Q)) E s)
    (hs : ∀ x, foldedSetIterable iter env x = pure x := by intro _; rfl) :
    wpAny (model prog w) A (eval (.ListComp elt [⟨.Name x px, iter, [ct], 0⟩] scope pos) env) Q E s := by
  rw [eval_ListComp]
  refine wpAny_comprehension_free (use := none) rfl hs hclos hkind hnames (wpAny_mono h (fun xv s₁ h₁ => ?_) fun _ _ e => e)
  obtain ⟨b, t, ks, news, rfl, hh, F, N, hk, hsz, R⟩ := h₁
  refine KBw.pyIter_bytes ?_
  refine block_T (bytes_W hh s₁.heap.objs.size b t hk) hsz (fun i h st => let ⟨o, ho, _⟩ := st; ⟨o, ho⟩) bytes_st hcell hkind hx ⟨_, Heap.get?_push_size _ rfl, rfl, rfl⟩ (fun b hb => ?_)
    (F.keeps fun _ _ e => Heap.get?_push_of_some _ e) (N.grown fun _ _ e => Heap.get?_push_of_some _ e) (Nat.ne_of_lt F.ns.lt) (next_is_new F) (fun p hp => Nat.ne_of_lt (Heap.lt_size (N p hp).1)) trivial (R _ ⟨_, rfl⟩) ?_
  · rw [List.mem_singleton.mp hb]
    show s₁.heap.objs.size < (s₁.heap.push _).objs.size
    rw [Heap.size_push]; exact Nat.lt_succ_self _
  · intro D C h tk m' ys news' F' N' o1 hn hC₀ hD₀ hCL hDL hCD offC fin
    refine ⟨m', hn, fun h'' hs'' => fin D h'' tk (F'.change hs'' hCL hC₀) (fun p hp => ?_) o1⟩
    refine ⟨hs''.extBut _ _ ?_ (N' p hp).1, (N' p hp).2⟩
    rcases List.mem_cons.mp hp with rfl | hp
    · exact Ne.symm hCD
    · exact offC p hp
end

end
section
open LCg LCt

section
variable {prog : Program} {w : World} {A : Around} {E : Value → Shared → Prop} {s : Shared} {h₀ : Heap} {L : Addr} {m : Str → Option Value} {env : Env}

/-- the comprehension's own room, with one cell -/
theorem newEnv_cell {scope : Scope} {x : Str} {cl : List (Str × Addr)} {Q : Env → Shared → Prop} (_hk : scope.kind = .function) (hc : ∀ n acc, cellsFrom n scope.names acc = (x, n) :: acc)
    (hQ : ∀ h₁ oc, h₁.get? s.heap.objs.size = some { cls := .type "dict", data := .dict #[] } → h₁.get? (s.heap.objs.size + 1) = some oc → oc.data = .cell none → (∀ b o, s.heap.get? b = some o → h₁.get? b = some o) → h₁.Ns s.heap.objs.size (fun _ => none) →
      Q (newEnv scope s.heap.objs.size env.globals ((x, s.heap.objs.size + 1) :: cl) env.qual none .none (some env) builtinsNs) { s with heap := h₁ }) :
    wpAny (model prog w) A (newFunctionEnv scope env.globals cl [] env.qual none .none (some env)) Q E s := by
  simp only [newFunctionEnv, Option.isSome_some, if_true]
  refine wpAny_bind (wpAny_alloc ?_)
  refine wpAny_bind (wpAny_layCells _ (fun name kind cells => by cases hkc : kind == NameKind.cell <;> simp) _ _ _ _ ?_)
  have ok := cellsFrom_ok scope.names (s.heap.push { cls := .type "dict", data := .dict #[] }) (s.heap.objs.size + 1) [] ⟨fun _ _ hm => (nomatch hm), List.Pairwise.nil⟩ (by rw [Heap.size_push]; exact Nat.le_refl _)
  rw [Heap.size_push, hc] at ok
  rw [show ({ s with heap := s.heap.push { cls := .type "dict", data := .dict #[] } } : Shared).heap.objs.size = s.heap.objs.size + 1 from Heap.size_push .., hc]
  refine wpAny_bind ?_
  rw [List.forIn_nil]
  refine wpAny_pure (wpAny_pure ?_)
  obtain ⟨oc, hoc, hd⟩ := (ok.empty x _ List.mem_cons_self).1
  have keep : ∀ b o, (s.heap.push { cls := .type "dict", data := .dict #[] }).get? b = some o → (pushCells (s.heap.push { cls := .type "dict", data := .dict #[] }) scope.names).get? b = some o := fun b o e => pushCells_keeps _ _ b o e
  exact hQ _ oc (keep _ _ (Heap.get?_push_size _ rfl)) hoc hd (fun b o e => keep _ _ (Heap.get?_push_of_some _ e)) ((Heap.Ns.new s.heap (.type "dict")).keeps keep)

abbrev cellEnv (scope : Scope) (x : Str) (c : Addr) (cl : List (Str × Addr)) (C : Addr) (env : Env) : Env := compEnvC scope ((x, c) :: cl) C env

theorem lookup_relabel_cell {env : Env} : ∀ {names : List (Str × NameKind)} {x : Str}, names.lookup x = some .cell →
    (names.map fun (n, k) => if (k == NameKind.free && env.scope.kind == .function && env.kindOf n == some .cell) then (n, NameKind.cell) else (n, k)).lookup x = some .cell
  | [], _, h => by simp at h
  | (n, k) :: r, x, h => by
    have ih := @lookup_relabel_cell env r x
    show List.lookup x ((if (k == NameKind.free && env.scope.kind == .function && env.kindOf n == some .cell) = true then (n, NameKind.cell) else (n, k)) :: _) = _
    cases hx : x == n with
    | true =>
      simp only [List.lookup_cons, hx] at h
      cases h
      simp [List.lookup_cons, hx]
    | false =>
      simp only [List.lookup_cons, hx] at h
      by_cases hc : (k == NameKind.free && env.scope.kind == .function && env.kindOf n == some .cell) = true
      · rw [if_pos hc]; simp only [List.lookup_cons, hx]; exact ih h
      · rw [if_neg hc]; simp only [List.lookup_cons, hx]; exact ih h

def TurnC (prog : Program) (w : World) (A : Around) (h₀ : Heap) (L : Addr) (m : Str → Option Value) (env : Env) (ct elt : Expr) (x : Str) (scope : Scope) (cl : List (Str × Addr)) (s : Shared) (ks : List Int) (q : Int → Bool) (news : List (Addr × Obj)) : Prop :=
  ∀ k t I oI C oC D c oc ys l h tk (E' : Value → Shared → Prop), k ∈ ks → IntsAre ys l → oc.data = .cell (some (.int k t)) → Fr h₀ L h m → News h₀ L h ((I, oI) :: (C, oC) :: (D, lst ys) :: (c, oc) :: news) → Off3 I C D ((c, oc) :: news) → ((@Ne Nat I C) ∧ (@Ne Nat I D) ∧ (@Ne Nat C D)) → Off1 c news → KPfMark →
    wpAny (model prog w) A (isTrue ct (cellEnv scope x c cl C env) (eval ct (cellEnv scope x c cl C env))) (fun b s' => b = q k ∧ if b = true then
      wpAny (model prog w) A (eval elt (cellEnv scope x c cl C env)) (CompEnd h₀ L m { s with heap := h, toks := tk } I oI C oC D (lst ys) (fun _ => True) (fun y news' => news' = (c, oc) :: news ∧ ∃ t, y = .int k t)) E' s'
      else CompEnd h₀ L m { s with heap := h, toks := tk } I oI C oC D (lst ys) (fun _ => True) (fun _ news' => news' = (c, oc) :: news) Value.none s') E' { s with heap := h, toks := tk }

theorem Off1.of {D : Addr} : ∀ {l : List (Addr × Obj)}, (∀ p ∈ l, p.1 ≠ D) → Off1 D l
  | [], _ => trivial
  | _ :: _, h => ⟨h _ List.mem_cons_self, Off1.of fun p hp => h p (List.mem_cons_of_mem _ hp)⟩
theorem Off1.mem {D : Addr} : ∀ {l : List (Addr × Obj)}, Off1 D l → ∀ p ∈ l, p.1 ≠ D
  | [], _, _, h => nomatch h
  | _ :: _, x, p, h => by
    rcases List.mem_cons.mp h with rfl | h
    · exact x.1
    · exact Off1.mem x.2 p h

theorem block_C {ct elt iter : Expr} {x : Str} {px : Pos} {scope : Scope} {cl : List (Str × Addr)} {pos : Pos} {s₂ : Shared} {I : Addr} {fp : List Addr} {P : Nat → Value → Prop} {St : Nat → Heap → Prop} {news : List (Addr × Obj)} {ks : List Int} {q : Int → Bool}
    {Fin : List Value → List (Addr × Obj) → Prop} {RR : Value → Addr → Result → Shared → Prop}
    (W : Walks prog w A I fp [I] ks.length P St) (hP : ∀ i v, i < ks.length → P i v → ∃ k t, ks[i]? = some k ∧ v = .int k t) (hsz : ks.length ≤ sizeLine) (hIo : ∀ i h, St i h → ∃ o, h.get? I = some o)
    (hSt : ∀ i h h' o, St i h → h.get? I = some o → h'.get? I = some o → (∀ b o, h₀.get? b = some o → h'.get? b = some o) → News h₀ L h' news → St i h')
    (hcell : ∀ n acc, cellsFrom n scope.names acc = (x, n) :: acc) (hkind : scope.kind = .function) (hx : scope.names.lookup x = some .cell) (hst : St 0 s₂.heap) (hfp : ∀ b ∈ fp, b < s₂.heap.objs.size)
    (F : Fr h₀ L s₂.heap m) (N : News h₀ L s₂.heap news) (hIL : L ≠ I) (hI₀ : h₀.get? I = none) (off : ∀ p ∈ news, p.1 ≠ I)
    (R : TurnC prog w A h₀ L m env ct elt x scope cl s₂ ks q news) (fin : ∀ ys, IntsAre ys (ks.filter q) → Fin ys news)
    (hRR : ∀ D C h tk m' ys, Fr h₀ L h m → News h₀ L h ((D, lst ys) :: news) → Off1 D news → h.Ns C m' → h₀.get? C = none → h₀.get? D = none → C ≠ L → D ≠ L → C ≠ D → (∀ p ∈ news, p.1 ≠ C) → Fin ys news → RR (.ref D) C (.ok .next) { s₂ with heap := h, toks := tk }) :
    wpAny (model prog w) A (newList []) (fun acc s₃ => wpAny (model prog w) A (newFunctionEnv scope env.globals cl [] env.qual none .none (some env)) (fun cenv s₄ =>
      codeAny (model prog w) A (.compStart (.ListComp elt [⟨.Name x px, iter, [ct], 0⟩] scope pos) 0 (.ref I) acc { cenv with scope := relabel scope env }) (RR acc cenv.locals) s₄) E s₃) E s₂ := by
  refine wpAny_newObj_type (newEnv_cell hkind hcell (fun h₁ oc hC₁ hc₁ hdc old₁ hns₁ => ?_))
  dsimp only at hns₁ hC₁ hc₁ old₁ ⊢
  generalize hH2 : s₂.heap.push { cls := .type "list", dict := none, data := .seq ([] : List Value).toArray } = H2 at hns₁ hC₁ hc₁ old₁ ⊢
  have hC : H2.objs.size = s₂.heap.objs.size + 1 := by rw [← hH2, Heap.size_push]
  have hDC : s₂.heap.objs.size ≠ H2.objs.size := by rw [hC]; exact Nat.ne_of_lt (Nat.lt_succ_self _)
  have hDc : s₂.heap.objs.size ≠ H2.objs.size + 1 := by rw [hC]; exact Nat.ne_of_lt (by omega)
  have hCc : H2.objs.size ≠ H2.objs.size + 1 := Nat.ne_of_lt (Nat.lt_succ_self _)
  have below : ∀ b, b < s₂.heap.objs.size → b ≠ H2.objs.size ∧ b ≠ s₂.heap.objs.size ∧ b ≠ H2.objs.size + 1 := fun b hb => ⟨by rw [hC]; exact Nat.ne_of_lt (Nat.lt_succ_of_lt hb), Nat.ne_of_lt hb, by rw [hC]; exact Nat.ne_of_lt (Nat.lt_succ_of_lt (Nat.lt_succ_of_lt hb))⟩
  have hDf : s₂.heap.objs.size ∉ fp := fun hm => Nat.lt_irrefl _ (hfp _ hm)
  have hcf : H2.objs.size + 1 ∉ fp := fun hm => (below _ (hfp _ hm)).2.2 rfl
  have hIf : I ∈ fp := W.sub I (List.mem_singleton.mpr rfl)
  have hIlt : I < s₂.heap.objs.size := hfp I hIf
  have old : ∀ b o, s₂.heap.get? b = some o → h₁.get? b = some o := fun b o e => old₁ b o (hH2 ▸ Heap.get?_push_of_some _ e)
  have hacc : h₁.get? s₂.heap.objs.size = some (lst []) := old₁ _ _ (hH2 ▸ Heap.get?_push_size _ rfl)
  have hst₁ : St 0 h₁ := W.frame _ _ _ hst fun b _ o e => old b o e
  have fresh : ∀ a, s₂.heap.objs.size ≤ a → s₂.heap.get? a = none := fun a ha => by
    cases e : s₂.heap.get? a with
    | none => rfl
    | some o' => exact absurd (Heap.lt_size e) (Nat.not_lt.mpr ha)
  have fresh₀ : ∀ a, s₂.heap.objs.size ≤ a → h₀.get? a = none := fun a ha => by
    cases e : h₀.get? a with
    | none => rfl
    | some o' => have := F.keep a o' e; rw [fresh a ha] at this; cases this
  have hD₀ : h₀.get? s₂.heap.objs.size = none := fresh₀ _ (Nat.le_refl _)
  have hC₀ : h₀.get? H2.objs.size = none := fresh₀ _ (by rw [hC]; exact Nat.le_succ _)
  have hc₀ : h₀.get? (H2.objs.size + 1) = none := fresh₀ _ (by rw [hC]; omega)
  have hLlt : L < s₂.heap.objs.size := F.ns.lt
  have hDL : s₂.heap.objs.size ≠ L := Ne.symm (below L hLlt).2.1
  have hCL : H2.objs.size ≠ L := Ne.symm (below L hLlt).1
  have hcL : H2.objs.size + 1 ≠ L := Ne.symm (below L hLlt).2.2
  have hCI : I ≠ H2.objs.size := (below I hIlt).1
  have hDI : I ≠ s₂.heap.objs.size := (below I hIlt).2.1
  have hcI : I ≠ H2.objs.size + 1 := (below I hIlt).2.2
  have offn : ∀ p ∈ news, p.1 ≠ I ∧ p.1 ≠ H2.objs.size ∧ p.1 ≠ s₂.heap.objs.size ∧ p.1 ≠ H2.objs.size + 1 := fun p hp => ⟨off p hp, below _ (Heap.lt_size (N p hp).1)⟩
  have off3 : ∀ oc, Off3 I H2.objs.size s₂.heap.objs.size ((H2.objs.size + 1, oc) :: news) := fun oc => ⟨⟨Ne.symm hcI, Ne.symm hCc, Ne.symm hDc⟩, Off3.of fun p hp => ⟨(offn p hp).1, (offn p hp).2.1, (offn p hp).2.2.1⟩⟩
  have offc : Off1 (H2.objs.size + 1) news := Off1.of fun p hp => (offn p hp).2.2.2
  have loop : ∀ s₃ : Shared, s₃ = { s₂ with heap := h₁ } →
      codeAny (model prog w) A (.compLoop (.ListComp elt [⟨.Name x px, iter, [ct], 0⟩] scope pos) 0 (.ref I) (.ref s₂.heap.objs.size) (cellEnv scope x (H2.objs.size + 1) cl H2.objs.size env))
        (RR (.ref s₂.heap.objs.size) H2.objs.size) s₃ := by
    rintro s₃ rfl
    refine codeAny_compLoop_tests
      (fun k s' => ∃ h' tk i ys m' oc, s' = { s₂ with heap := h', toks := tk } ∧ i ≤ ks.length ∧ k = ks.length + 1 - i ∧ ys.length ≤ i ∧ St i h' ∧ Fr h₀ L h' m ∧ h'.Ns H2.objs.size m' ∧ (∃ v, oc.data = .cell v) ∧ News h₀ L h' ((s₂.heap.objs.size, lst ys) :: (H2.objs.size + 1, oc) :: news) ∧
        IntsAre ys ((ks.take i).filter q)) ?_ (ks.length + 1)
      ⟨h₁, _, 0, [], _, oc, rfl, Nat.zero_le _, rfl, Nat.le_refl _, hst₁, F.keeps old, hns₁, ⟨_, hdc⟩, fun p hp => ?_, .nil⟩
    · rintro k s' ⟨h', tk, i, ys, m', oc, rfl, hi, rfl, hyl, hst', F', hn', ⟨v₀, hdc⟩, N', hI⟩
      by_cases hlt : i < ks.length
      · refine W.item i _ _ _ hlt hst' fun v h₂ tk₂ hPv hst₂ hk₂ => ?_
        obtain ⟨k, t, hk, rfl⟩ := hP i v hlt hPv
        have N₂ : News h₀ L h₂ ((s₂.heap.objs.size, lst ys) :: (H2.objs.size + 1, oc) :: news) := news_but N' hk₂ fun p hp => by
          rcases List.mem_cons.mp hp with rfl | hp
          · exact Ne.symm hDI
          · rcases List.mem_cons.mp hp with rfl | hp
            · exact Ne.symm hcI
            · exact (offn p hp).1
        have hn₂ : h₂.Ns H2.objs.size m' := hn'.at' fun o e => hk₂ _ o (by simpa using Ne.symm hCI) e
        have zc := (N₂ (H2.objs.size + 1, oc) (List.mem_cons_of_mem _ List.mem_cons_self)).1
        refine wpAny_assign_Name (wpAny_storeName_cell (env := cellEnv scope x (H2.objs.size + 1) cl H2.objs.size env) (c := H2.objs.size + 1) (v₀ := v₀) (by simp [compEnvC, relabel, hkind]) (lookup_relabel_cell hx) (by simp [compEnvC]) ⟨oc, zc, hdc⟩ (fun h₃ hv₃ hs₃ => ?_))
        obtain ⟨oc₃, hoc₃, hdc₃⟩ := hv₃
        refine wpAny_tests_one ?_
        have hst₃ : St (i + 1) h₃ := W.frame _ _ _ hst₂ fun b hb o e => hs₃.extBut b o (fun q => hcf (by have q' : b = H2.objs.size + 1 := q; rw [← q']; exact hb)) e
        obtain ⟨oI, heI⟩ := hIo _ _ hst₃
        have hn₃ : h₃.Ns H2.objs.size m' := hn₂.sameBut hs₃ hCc
        obtain ⟨oC, heC, hoC⟩ := ns_obj hn₃
        have F₃ : Fr h₀ L h₃ m := (fr_but F' hk₂ hIL hI₀).change hs₃ hcL hc₀
        have N₃ : News h₀ L h₃ ((I, oI) :: (H2.objs.size, oC) :: (s₂.heap.objs.size, lst ys) :: (H2.objs.size + 1, oc₃) :: news) := fun p hp => by
          rcases List.mem_cons.mp hp with rfl | hp
          · exact ⟨heI, Ne.symm hIL, hI₀⟩
          · rcases List.mem_cons.mp hp with rfl | hp
            · exact ⟨heC, hCL, hC₀⟩
            · rcases List.mem_cons.mp hp with rfl | hp
              · have z := N₂ _ List.mem_cons_self
                exact ⟨hs₃.extBut _ _ hDc z.1, z.2⟩
              · rcases List.mem_cons.mp hp with rfl | hp
                · exact ⟨hoc₃, hcL, hc₀⟩
                · have z := N₂ p (List.mem_cons_of_mem _ (List.mem_cons_of_mem _ hp))
                  exact ⟨hs₃.extBut _ _ (offn p hp).2.2.2 z.1, z.2⟩
        have htake : (ks.take (i + 1)).filter q = (ks.take i).filter q ++ if q k = true then [k] else [] := by
          rw [List.take_add_one, hk, List.filter_append]
          congr 1
          by_cases hq : q k = true
          · simp [hq]
          · simp [hq]
        refine wpAny_mono (R k t I oI H2.objs.size oC s₂.heap.objs.size (H2.objs.size + 1) oc₃ ys _ h₃ _ _ (List.mem_of_getElem? hk) hI hdc₃ F₃ N₃ (off3 _) ⟨hCI, hDI, Ne.symm hDC⟩ offc True.intro) (fun ok s₄ h₄ => ?_) fun _ _ e => e
        obtain ⟨hok, h₄⟩ := h₄
        cases ok with
        | true =>
          simp only [if_true] at h₄ ⊢
          refine wpAny_mono h₄ (fun y s₅ h₅ => ?_) fun _ _ e => e
          obtain ⟨h₄, tk₄, news₄, rfl, F₄, N₄, off₄, hS₄, rfl, t', rfl⟩ := h₅
          have zI := (N₄ (I, oI) List.mem_cons_self).1
          have zC := (N₄ (H2.objs.size, oC) (List.mem_cons_of_mem _ List.mem_cons_self)).1
          have zD := (N₄ (s₂.heap.objs.size, lst ys) (List.mem_cons_of_mem _ (List.mem_cons_of_mem _ List.mem_cons_self))).1
          have N₄' : News h₀ L h₄ ((H2.objs.size + 1, oc₃) :: news) := fun p hp => N₄ p (List.mem_cons_of_mem _ (List.mem_cons_of_mem _ (List.mem_cons_of_mem _ hp)))
          have hst₄ : St (i + 1) h₄ := hSt _ _ _ _ hst₃ heI zI F₄.keep fun p hp => N₄' p (List.mem_cons_of_mem _ hp)
          refine append_at (hsz := by show ys.toArray.size ≤ sizeLine; rw [List.size_toArray]; exact Nat.le_trans (Nat.le_trans hyl hi) hsz) zD fun h₅ hs₅ hD₅ => ?_
          refine ⟨ks.length + 1 - (i + 1), by omega, h₅, tk₄, i + 1, ys ++ [.int k t'], _, oc₃, rfl, hlt, rfl, by rw [List.length_append, List.length_singleton]; exact Nat.succ_le_succ hyl, W.frame _ _ _ hst₄ fun b hb o e => hs₅.extBut b o (fun q => hDf (q ▸ hb)) e, F₄.change hs₅ hDL hD₀,
            (hoC.ns zC).sameBut hs₅ (Ne.symm hDC), ⟨_, hdc₃⟩, fun p hp => ?_, ?_⟩
          · rcases List.mem_cons.mp hp with rfl | hp
            · exact ⟨hD₅.trans (congrArg some (lst_snoc ys _)), hDL, hD₀⟩
            · refine ⟨hs₅.extBut _ _ ?_ (N₄' p hp).1, (N₄' p hp).2⟩
              rcases List.mem_cons.mp hp with rfl | hp
              · exact Ne.symm hDc
              · exact (offn p hp).2.2.1
          · rw [htake, ← hok, if_pos rfl]
            exact hI.append (.cons k t' .nil)
        | false =>
          simp only [Bool.false_eq_true, if_false] at h₄ ⊢
          obtain ⟨h₅, tk₄, news₄, rfl, F₄, N₄, off₄, hS₄, rfl⟩ := h₄
          have zI := (N₄ (I, oI) List.mem_cons_self).1
          have zC := (N₄ (H2.objs.size, oC) (List.mem_cons_of_mem _ List.mem_cons_self)).1
          have N₄' : News h₀ L h₅ ((H2.objs.size + 1, oc₃) :: news) := fun p hp => N₄ p (List.mem_cons_of_mem _ (List.mem_cons_of_mem _ (List.mem_cons_of_mem _ hp)))
          have hst₄ : St (i + 1) h₅ := hSt _ _ _ _ hst₃ heI zI F₄.keep fun p hp => N₄' p (List.mem_cons_of_mem _ hp)
          refine ⟨ks.length + 1 - (i + 1), by omega, h₅, tk₄, i + 1, ys, _, oc₃, rfl, hlt, rfl, Nat.le_succ_of_le hyl, hst₄, F₄, hoC.ns zC, ⟨_, hdc₃⟩, fun p hp => ?_, ?_⟩
          · rcases List.mem_cons.mp hp with rfl | hp
            · exact N₄ _ (List.mem_cons_of_mem _ (List.mem_cons_of_mem _ List.mem_cons_self))
            · exact N₄' p hp
          · rw [htake, ← hok, if_neg Bool.false_ne_true, List.append_nil]
            exact hI
      · obtain rfl : i = ks.length := Nat.le_antisymm hi (Nat.not_lt.mp hlt)
        refine W.done _ _ _ hst' fun h₂ tk₂ hk₂ => ?_
        rw [List.take_length] at hI
        exact hRR _ _ h₂ tk₂ _ ys (fr_but F' hk₂ hIL hI₀) (news_but (news := (s₂.heap.objs.size, lst ys) :: news) (fun p hp => N' p (by
            rcases List.mem_cons.mp hp with rfl | hp
            · exact List.mem_cons_self
            · exact List.mem_cons_of_mem _ (List.mem_cons_of_mem _ hp))) hk₂ fun p hp => by
          rcases List.mem_cons.mp hp with rfl | hp
          · exact Ne.symm hDI
          · exact (offn p hp).1) (Off1.of fun p hp => (offn p hp).2.2.1) (hn'.at' fun o e => hk₂ _ o (by simpa using Ne.symm hCI) e) hC₀ hD₀ hCL hDL (Ne.symm hDC) (fun p hp => (offn p hp).2.1) (fin ys hI)
    · rcases List.mem_cons.mp hp with rfl | hp
      · exact ⟨hacc, hDL, hD₀⟩
      · rcases List.mem_cons.mp hp with rfl | hp
        · exact ⟨hc₁, hcL, hc₀⟩
        · exact ⟨old _ _ (N p hp).1, (N p hp).2⟩
  exact codeAny_compStart_list (loop _ rfl) (W.self 0 _ _ _ hst₁ (loop _ rfl))
def CompSrcC (prog : Program) (w : World) (A : Around) (h₀ : Heap) (L : Addr) (m : Str → Option Value) (env : Env) (ct elt : Expr) (x : Str) (scope : Scope) (cl : List (Str × Addr)) (Fin : Shared → List Value → List (Addr × Obj) → Prop) (xv : Value) (s₁ : Shared) : Prop :=
  ∃ b t ks q news, xv = .bytes b t ∧ A.handled = none ∧ Fr h₀ L s₁.heap m ∧ News h₀ L s₁.heap news ∧ KBw.bInts b = ks ∧ ks.length ≤ sizeLine ∧
    ∀ s₂ : Shared, (∃ h, s₂ = { s₁ with heap := h }) → TurnC prog w A h₀ L m env ct elt x scope cl s₂ ks q news ∧ (∀ ys, IntsAre ys (ks.filter q) → Fin s₂ ys news)
theorem CompSrcC.bytes {ct elt : Expr} {x : Str} {scope : Scope} {cl : List (Str × Addr)} {Fin : Shared → List Value → List (Addr × Obj) → Prop} {b : Array UInt8} {t : Tok} {ks : List Int} {news : List (Addr × Obj)} {s₁ : Shared} (q : Int → Bool)
    (hh : A.handled = none) (F : Fr h₀ L s₁.heap m) (N : News h₀ L s₁.heap news) (hk : KBw.bInts b = ks) (hsz : ks.length ≤ sizeLine)
    (turn : ∀ gh, TurnC prog w A h₀ L m env ct elt x scope cl { s₁ with heap := gh } ks q news)
    (fin : ∀ gh ys, IntsAre ys (ks.filter q) → Fin { s₁ with heap := gh } ys news) : CompSrcC prog w A h₀ L m env ct elt x scope cl Fin (.bytes b t) s₁ :=
  ⟨b, t, ks, q, news, rfl, hh, F, N, hk, hsz, fun _ ⟨gh, e⟩ => e ▸ ⟨turn gh, fin gh⟩⟩

theorem ListComp_C {ct elt iter : Expr} {x : Str} {px : Pos} {scope : Scope} {cl : List (Str × Addr)} {pos : Pos} {Q : Value → Shared → Prop} (_F₀ : Fr h₀ L s.heap m)
    (hclos : closureFor scope env = pure cl) (hcell : ∀ n acc, cellsFrom n scope.names acc = (x, n) :: acc) (hkind : scope.kind = .function)
    (hnames : ∀ y ∈ scope.names, y.2 = .local → scope.names.lookup y.1 = some .local) (hx : scope.names.lookup x = some .cell)
    (h : wpAny (model prog w) A (eval iter env) (CompSrcC prog w A h₀ L m env ct elt x scope cl (fun s₂ => FinE h₀ L m s₂ Q)) E s)
    (hs : ∀ x, foldedSetIterable iter env x = pure x := by intro _; rfl) :
    wpAny (model prog w) A (eval (.ListComp elt [⟨.Name x px, iter, [ct], 0⟩] scope pos) env) Q E s := by
  rw [eval_ListComp]
  refine wpAny_comprehension_free (use := none) rfl hs hclos hkind hnames (wpAny_mono h (fun xv s₁ h₁ => ?_) fun _ _ e => e)
  obtain ⟨b, t, ks, q, news, rfl, hh, F, N, hk, hsz, R⟩ := h₁
  refine KBw.pyIter_bytes ?_
  obtain ⟨R1, R2⟩ := R { s₁ with heap := s₁.heap.push { cls := .type "bytes_iterator", data := .fields #[.bytes b t, .int 0 0] } } ⟨_, rfl⟩
  refine block_C (bytes_W hh s₁.heap.objs.size b t hk) (fun _ _ _ h => h) hsz (fun i h st => let ⟨o, ho, _⟩ := st; ⟨o, ho⟩) (fun i h h' o st e e' k n => bytes_st i h h' o _ st e e' k n trivial) hcell hkind hx ⟨_, Heap.get?_push_size _ rfl, rfl, rfl⟩ (fun b hb => ?_)
    (F.keeps fun _ _ e => Heap.get?_push_of_some _ e) (N.grown fun _ _ e => Heap.get?_push_of_some _ e) (Nat.ne_of_lt F.ns.lt) (next_is_new F) (fun p hp => Nat.ne_of_lt (Heap.lt_size (N p hp).1)) R1 R2 ?_
  · rw [List.mem_singleton.mp hb]
    show s₁.heap.objs.size < (s₁.heap.push _).objs.size
    rw [Heap.size_push]; exact Nat.lt_succ_self _
  · intro D C h tk m' ys F' N' o1 hn hC₀ hD₀ hCL hDL hCD offC fin
    refine ⟨m', hn, fun h'' hs'' => fin D h'' tk (F'.change hs'' hCL hC₀) (fun p hp => ?_) o1⟩
    refine ⟨hs''.extBut _ _ ?_ (N' p hp).1, (N' p hp).2⟩
    rcases List.mem_cons.mp hp with rfl | hp
    · exact Ne.symm hCD
    · exact offC p hp
end
section
variable {prog : Program} {w : World} {A : Around} {h₀ : Heap} {L : Addr} {m : Str → Option Value} {env : Env}
theorem CompSrcC.none {ct elt : Expr} {x : Str} {scope : Scope} {cl : List (Str × Addr)} {Fin : Shared → List Value → List (Addr × Obj) → Prop} {b : Array UInt8} {t : Tok} {ks : List Int} {news : List (Addr × Obj)} {s₁ : Shared}
    (hh : A.handled = .none) (F : Fr h₀ L s₁.heap m) (N : News h₀ L s₁.heap news) (hk : KBw.bInts b = ks) (hsz : ks.length ≤ sizeLine)
    (turn : ∀ gh, TurnC prog w A h₀ L m env ct elt x scope cl { s₁ with heap := gh } ks (fun _ => false) news)
    (fin : ∀ gh, Fin { s₁ with heap := gh } [] news) : CompSrcC prog w A h₀ L m env ct elt x scope cl Fin (.bytes b t) s₁ :=
  CompSrcC.bytes (fun _ => false) hh F N hk hsz turn fun gh ys hy => by
    rw [List.filter_eq_nil_iff.mpr (by simp)] at hy
    cases hy
    exact fin gh
end

end
section
local macro_rules | `(tactic| walk_at "none of these") => `(tactic| skip)
local macro_rules | `(tactic| walk_at "none of these") => `(tactic| skip)
local macro_rules | `(tactic| walk_at "none of these") => `(tactic| skip)
local macro_rules | `(tactic| walk_at "none of these") => `(tactic| skip)
local macro_rules | `(tactic| walk_at "none of these") => `(tactic| skip)
local macro_rules | `(tactic| walk_at "none of these") => `(tactic| skip)
local macro_rules | `(tactic| walk_at "none of these") => `(tactic| skip)
local macro_rules | `(tactic| walk_at "none of these") => `(tactic| skip)
local macro_rules | `(tactic| walk_at "none of these") => `(tactic| skip)
local macro_rules | `(tactic| walk_at "none of these") => `(tactic| skip)
theorem len_lit {prog : Program} {w : World} {A : Around} {E : Value → Shared → Prop} {s : Shared} {b : Array UInt8} {t : Tok} {ks : List Int} {Q : Value → Shared → Prop} (n : Nat) (hk : KBw.bInts b = ks) (hn : ks.length = n) (hfit : n ≤ 1000) (h : Q (.int (n : Int) (s.toks + 1)) { s with toks := s.toks + 1 + 1 }) : wpAny (model prog w) A (call (.builtin "len") [.bytes b t]) Q E s := by
  subst hn
  exact KBw.len_K hk (by omega) h
theorem item_lit {prog : Program} {w : World} {A : Around} {E : Value → Shared → Prop} {s : Shared} {value slice : PySem.Expr} {b : Array UInt8} {t ui : Tok} {ks : List Int} {i v : Int} {Q : Value → Shared → Prop} (hk : KBw.bInts b = ks) (h0 : 0 ≤ i) (hx : ks[i.toNat]? = some v) (hz : ks.length ≤ 1000)
    (h : ∀ t' k, Q (.int v t') { s with toks := k })
    (hs : subscripted slice false (.bytes b t) (.int i ui) = operate [.bytes b t, .int i ui] (getItem (.bytes b t) (.int i ui)) := by with_unfolding_all rfl)
    (ht : ∀ r, letTemporaryGo value (.bytes b t) r = pure () := by intro _; with_unfolding_all rfl) : wpAny (model prog w) A (subscriptTail value slice (.bytes b t) (.int i ui)) Q E s := by
  have hlt := (List.getElem?_eq_some_iff.mp hx).1
  refine KBw.item_K hk (by omega) h0 (by omega) (fun t' k _ _ => ?_) hs ht
  rw [List.getD_eq_getElem?_getD, hx]
  exact h t' k
theorem bytes_ba_K {prog : Program} {w : World} {A : Around} {E : Value → Shared → Prop} {s : Shared} {h₀ : Heap} {L D : Addr} {news : List (Addr × Obj)} {ns : List Int} {Q : Value → Shared → Prop} (N : News h₀ L s.heap news) (hm : (D, baObj (byteArr ns)) ∈ news) (hz : ns.length ≤ 1000)
    (h : ∀ t k, Q (.bytes (byteArr ns) t) { s with toks := k }) : wpAny (model prog w) A (call (.type "bytes") [.ref D]) Q E s :=
  bytes_ba (N _ hm).1 (by rw [byteArr_size]; exact hz) h
section
local macro_rules | `(tactic| walk_at "call builtin:len") => `(tactic| (k_here; (with_reducible show wpAny _ _ (call (Value.builtin "len") [Value.bytes _ _]) _ _ _); (first | refine len_lit 2 (by assumption) rfl (by decide) ?_ | refine len_lit 4 (by assumption) rfl (by decide) ?_ | refine len_lit 6 (by assumption) rfl (by decide) ?_ | refine len_lit 8 (by assumption) rfl (by decide) ?_)))
local macro_rules | `(tactic| walk_at "subscriptTail") => `(tactic| (k_here; (with_reducible show wpAny _ _ (subscriptTail _ _ (Value.bytes _ _) (Value.int _ _)) _ _ _); (refine item_lit (by assumption) (by decide) rfl (by simp) ?_); intro _ _))
local macro_rules | `(tactic| walk_at "setItem ref int") => `(tactic| (k_here; (with_reducible show wpAny _ _ (PySem.setItem (Value.ref _) (Value.int _ _) (Value.int _ _)) _ _ _); k_dflt (refine' set_ba_K ?F ?N ?U ?a ?b ?c ?d ?e ?_; (case F => k_asm); (case N => k_asm); (case U => k_upd); (case a => decide); (case b => (simp only [List.length_set, List.length_replicate]; decide)); (case c => (simp only [List.length_set, List.length_replicate]; decide)); (case d => omega); (case e => omega)); intro h' F' N'; (try k_sweep)))
local macro_rules | `(tactic| walk_at "call type:bytes") => `(tactic| (k_here; (with_reducible show wpAny _ _ (call (Value.type "bytes") [Value.ref _]) _ _ _); k_dflt (refine' bytes_ba_K ?N ?m ?z ?_; (case N => k_asm); (case m => k_mem); (case z => (simp only [List.length_set, List.length_replicate]; decide))); intro _ _))

set_option maxHeartbeats 8000000 in
theorem swap_4_4 (w : World) (loose : List Str) (mean : ExcName → Option Value) (mg mb : Str → Option Value) (x : Array UInt8) (t u : Tok) (k0 k1 k2 k3 : Int) (hk : KBw.bInts x = [k0, k1, k2, k3]) :
    ∀ (dp un : Nat) (fr : Option (List Env)) (gd : Option (List Code)) (s : Shared) (Q E : Value → Shared → Prop),
    (Mine.hd.heap_39 w.params).In s.heap → Top Mine.hd.view_39 loose mean mg mb s.heap → dp + 3 < recursionLimit → un + 40 < cLine →
    (∀ y t' h' tk', Ext s.heap h' → KBw.bInts y = [k3, k2, k1, k0] → Q (.bytes y t') { s with heap := h', toks := tk' }) →
    wpP (model Challenge.rw_ic0001_02.row.toRowW.prog w) (around dp un fr gd) (call (.ref 21) [.bytes x t, .int 4 u]) Q E s := by
  have hin : KBa.In [k0, k1, k2, k3] := fun n hn => by rw [← hk] at hn; exact KBw.ints_in hn
  have hk0 := hin k0 (by simp)
  have hk1 := hin k1 (by simp)
  have hk2 := hin k2 (by simp)
  have hk3 := hin k3 (by simp)
  w_top off
  k_fill
  intro dp un fr gd s Q E X T hd hu hret
  k_dflt (refine' enterP ?k1 ?k2 ?k3 ?k4 ?k5 ?k6 ?k7 ?c1 ?c2 ?c3 ?c4 ?_; (case k1 => assumption); (case k2 => assumption); (case k3 => k_is); (case k4 => k_is); (case k5 => ktr_room); (case k6 => first | exact BindsTo.of_eq rfl | exact binds_K (by k_in) rfl (by k_is) rfl rfl rfl); (case k7 => exact locs rfl); (case c1 => exact rfl); (case c2 => exact rfl); (case c3 => exact rfl); (case c4 => decide); k_whole; intro h' F' N'; (try dsimp only))
  refine execs_consP (Assign_NameP (Call_P ?_))
  k_steps
  refine callWith_type1P ?_
  k_steps
  (with_reducible rename Fr _ _ _ _ => F'); (with_reducible rename News _ _ _ _ => N')
  refine ba_new_K F' N' (by decide) (by decide) ?_
  intro D' h' F' N' l1
  k_lt l1
  k_steps
  show wpP _ _ (execs _ _) _ _ _
  refine wpP_any ?_
  k_fold
  k_steps
  refine hret _ _ _ _ (Fr.keep (by assumption)) ((KBa.ints_make ?_).trans rfl)
  intro q hq
  have e : q ∈ [k3, k2, k1, k0] := hq
  simp only [List.mem_cons, List.not_mem_nil, or_false] at e
  rcases e with rfl | rfl | rfl | rfl <;> assumption

set_option maxHeartbeats 8000000 in
theorem swap_4_2 (w : World) (loose : List Str) (mean : ExcName → Option Value) (mg mb : Str → Option Value) (x : Array UInt8) (t u : Tok) (k0 k1 k2 k3 : Int) (hk : KBw.bInts x = [k0, k1, k2, k3]) :
    ∀ (dp un : Nat) (fr : Option (List Env)) (gd : Option (List Code)) (s : Shared) (Q E : Value → Shared → Prop),
    (Mine.hd.heap_39 w.params).In s.heap → Top Mine.hd.view_39 loose mean mg mb s.heap → dp + 3 < recursionLimit → un + 40 < cLine →
    (∀ y t' h' tk', Ext s.heap h' → KBw.bInts y = [k1, k0, k3, k2] → Q (.bytes y t') { s with heap := h', toks := tk' }) →
    wpP (model Challenge.rw_ic0001_02.row.toRowW.prog w) (around dp un fr gd) (call (.ref 21) [.bytes x t, .int 2 u]) Q E s := by
  have hin : KBa.In [k0, k1, k2, k3] := fun n hn => by rw [← hk] at hn; exact KBw.ints_in hn
  have hk0 := hin k0 (by simp)
  have hk1 := hin k1 (by simp)
  have hk2 := hin k2 (by simp)
  have hk3 := hin k3 (by simp)
  w_top off
  k_fill
  intro dp un fr gd s Q E X T hd hu hret
  k_dflt (refine' enterP ?k1 ?k2 ?k3 ?k4 ?k5 ?k6 ?k7 ?c1 ?c2 ?c3 ?c4 ?_; (case k1 => assumption); (case k2 => assumption); (case k3 => k_is); (case k4 => k_is); (case k5 => ktr_room); (case k6 => first | exact BindsTo.of_eq rfl | exact binds_K (by k_in) rfl (by k_is) rfl rfl rfl); (case k7 => exact locs rfl); (case c1 => exact rfl); (case c2 => exact rfl); (case c3 => exact rfl); (case c4 => decide); k_whole; intro h' F' N'; (try dsimp only))
  refine execs_consP (Assign_NameP (Call_P ?_))
  k_steps
  refine callWith_type1P ?_
  k_steps
  (with_reducible rename Fr _ _ _ _ => F'); (with_reducible rename News _ _ _ _ => N')
  refine ba_new_K F' N' (by decide) (by decide) ?_
  intro D' h' F' N' l1
  k_lt l1
  k_steps
  show wpP _ _ (execs _ _) _ _ _
  refine wpP_any ?_
  k_fold
  k_steps
  refine hret _ _ _ _ (Fr.keep (by assumption)) ((KBa.ints_make ?_).trans rfl)
  intro q hq
  have e : q ∈ [k1, k0, k3, k2] := hq
  simp only [List.mem_cons, List.not_mem_nil, or_false] at e
  rcases e with rfl | rfl | rfl | rfl <;> assumption

set_option maxHeartbeats 8000000 in
theorem swap_8_8 (w : World) (loose : List Str) (mean : ExcName → Option Value) (mg mb : Str → Option Value) (x : Array UInt8) (t u : Tok) (k0 k1 k2 k3 k4 k5 k6 k7 : Int) (hk : KBw.bInts x = [k0, k1, k2, k3, k4, k5, k6, k7]) :
    ∀ (dp un : Nat) (fr : Option (List Env)) (gd : Option (List Code)) (s : Shared) (Q E : Value → Shared → Prop),
    (Mine.hd.heap_39 w.params).In s.heap → Top Mine.hd.view_39 loose mean mg mb s.heap → dp + 3 < recursionLimit → un + 40 < cLine →
    (∀ y t' h' tk', Ext s.heap h' → KBw.bInts y = [k7, k6, k5, k4, k3, k2, k1, k0] → Q (.bytes y t') { s with heap := h', toks := tk' }) →
    wpP (model Challenge.rw_ic0001_02.row.toRowW.prog w) (around dp un fr gd) (call (.ref 21) [.bytes x t, .int 8 u]) Q E s := by
  have hin : KBa.In [k0, k1, k2, k3, k4, k5, k6, k7] := fun n hn => by rw [← hk] at hn; exact KBw.ints_in hn
  have hk0 := hin k0 (by simp)
  have hk1 := hin k1 (by simp)
  have hk2 := hin k2 (by simp)
  have hk3 := hin k3 (by simp)
  have hk4 := hin k4 (by simp)
  have hk5 := hin k5 (by simp)
  have hk6 := hin k6 (by simp)
  have hk7 := hin k7 (by simp)
  w_top off
  k_fill
  intro dp un fr gd s Q E X T hd hu hret
  k_dflt (refine' enterP ?k1 ?k2 ?k3 ?k4 ?k5 ?k6 ?k7 ?c1 ?c2 ?c3 ?c4 ?_; (case k1 => assumption); (case k2 => assumption); (case k3 => k_is); (case k4 => k_is); (case k5 => ktr_room); (case k6 => first | exact BindsTo.of_eq rfl | exact binds_K (by k_in) rfl (by k_is) rfl rfl rfl); (case k7 => exact locs rfl); (case c1 => exact rfl); (case c2 => exact rfl); (case c3 => exact rfl); (case c4 => decide); k_whole; intro h' F' N'; (try dsimp only))
  refine execs_consP (Assign_NameP (Call_P ?_))
  k_steps
  refine callWith_type1P ?_
  k_steps
  (with_reducible rename Fr _ _ _ _ => F'); (with_reducible rename News _ _ _ _ => N')
  refine ba_new_K F' N' (by decide) (by decide) ?_
  intro D' h' F' N' l1
  k_lt l1
  k_steps
  show wpP _ _ (execs _ _) _ _ _
  refine wpP_any ?_
  k_fold
  k_steps
  refine hret _ _ _ _ (Fr.keep (by assumption)) ((KBa.ints_make ?_).trans rfl)
  intro q hq
  have e : q ∈ [k7, k6, k5, k4, k3, k2, k1, k0] := hq
  simp only [List.mem_cons, List.not_mem_nil, or_false] at e
  rcases e with rfl | rfl | rfl | rfl | rfl | rfl | rfl | rfl <;> assumption

set_option maxHeartbeats 8000000 in
theorem swap_8_4 (w : World) (loose : List Str) (mean : ExcName → Option Value) (mg mb : Str → Option Value) (x : Array UInt8) (t u : Tok) (k0 k1 k2 k3 k4 k5 k6 k7 : Int) (hk : KBw.bInts x = [k0, k1, k2, k3, k4, k5, k6, k7]) :
    ∀ (dp un : Nat) (fr : Option (List Env)) (gd : Option (List Code)) (s : Shared) (Q E : Value → Shared → Prop),
    (Mine.hd.heap_39 w.params).In s.heap → Top Mine.hd.view_39 loose mean mg mb s.heap → dp + 3 < recursionLimit → un + 40 < cLine →
    (∀ y t' h' tk', Ext s.heap h' → KBw.bInts y = [k3, k2, k1, k0, k7, k6, k5, k4] → Q (.bytes y t') { s with heap := h', toks := tk' }) →
    wpP (model Challenge.rw_ic0001_02.row.toRowW.prog w) (around dp un fr gd) (call (.ref 21) [.bytes x t, .int 4 u]) Q E s := by
  have hin : KBa.In [k0, k1, k2, k3, k4, k5, k6, k7] := fun n hn => by rw [← hk] at hn; exact KBw.ints_in hn
  have hk0 := hin k0 (by simp)
  have hk1 := hin k1 (by simp)
  have hk2 := hin k2 (by simp)
  have hk3 := hin k3 (by simp)
  have hk4 := hin k4 (by simp)
  have hk5 := hin k5 (by simp)
  have hk6 := hin k6 (by simp)
  have hk7 := hin k7 (by simp)
  w_top off
  k_fill
  intro dp un fr gd s Q E X T hd hu hret
  k_dflt (refine' enterP ?k1 ?k2 ?k3 ?k4 ?k5 ?k6 ?k7 ?c1 ?c2 ?c3 ?c4 ?_; (case k1 => assumption); (case k2 => assumption); (case k3 => k_is); (case k4 => k_is); (case k5 => ktr_room); (case k6 => first | exact BindsTo.of_eq rfl | exact binds_K (by k_in) rfl (by k_is) rfl rfl rfl); (case k7 => exact locs rfl); (case c1 => exact rfl); (case c2 => exact rfl); (case c3 => exact rfl); (case c4 => decide); k_whole; intro h' F' N'; (try dsimp only))
  refine execs_consP (Assign_NameP (Call_P ?_))
  k_steps
  refine callWith_type1P ?_
  k_steps
  (with_reducible rename Fr _ _ _ _ => F'); (with_reducible rename News _ _ _ _ => N')
  refine ba_new_K F' N' (by decide) (by decide) ?_
  intro D' h' F' N' l1
  k_lt l1
  k_steps
  show wpP _ _ (execs _ _) _ _ _
  refine wpP_any ?_
  k_fold
  k_steps
  refine hret _ _ _ _ (Fr.keep (by assumption)) ((KBa.ints_make ?_).trans rfl)
  intro q hq
  have e : q ∈ [k3, k2, k1, k0, k7, k6, k5, k4] := hq
  simp only [List.mem_cons, List.not_mem_nil, or_false] at e
  rcases e with rfl | rfl | rfl | rfl | rfl | rfl | rfl | rfl <;> assumption

end

end
section
local macro_rules | `(tactic| walk_at "none of these") => `(tactic| skip)
local macro_rules | `(tactic| walk_at "none of these") => `(tactic| skip)
local macro_rules | `(tactic| walk_at "none of these") => `(tactic| skip)
local macro_rules | `(tactic| walk_at "none of these") => `(tactic| skip)
local macro_rules | `(tactic| walk_at "none of these") => `(tactic| skip)
local macro_rules | `(tactic| walk_at "none of these") => `(tactic| skip)
local macro_rules | `(tactic| walk_at "none of these") => `(tactic| skip)
local macro_rules | `(tactic| walk_at "none of these") => `(tactic| skip)
local macro_rules | `(tactic| walk_at "none of these") => `(tactic| skip)
local macro_rules | `(tactic| walk_at "none of these") => `(tactic| skip)
local macro_rules | `(tactic| walk_at "none of these") => `(tactic| skip)
local macro_rules | `(tactic| walk_at "none of these") => `(tactic| skip)
local macro_rules | `(tactic| walk_at "none of these") => `(tactic| skip)
local macro_rules | `(tactic| walk_at "none of these") => `(tactic| skip)
local macro_rules | `(tactic| walk_at "none of these") => `(tactic| skip)

def LawOk (s₁ : Shared) (v : Value) (s' : Shared) : Prop := v = .bool true ∧ (∀ b o, s₁.heap.get? b = some o → s'.heap.get? b = some o) ∧ s'.gens = s₁.gens ∧ s'.os = s₁.os

def lawB : List Stmt := match PySem.Challenge.pw_ic0001_02.main.body with
  | [_, _, _, _, _, _, _, _, .FunctionDef _ _ b _ _ _ _ _ _ _] => b
  | _ => []
def lawSc : Scope := match PySem.Challenge.pw_ic0001_02.main.body with
  | [_, _, _, _, _, _, _, _, .FunctionDef _ _ _ _ _ _ sc _ _ _] => sc
  | _ => { kind := .module, names := [], isGenerator := false, isCoroutine := false, more := [] }
def lawIn : List Stmt := match lawB with
  | _ :: _ :: _ :: _ :: .For _ _ [_, _, st, _, _] _ _ :: _ => [st]
  | _ => []

/-- a fact to take ahead of others -/
def Pref (P : Prop) : Prop := P
theorem Pref.out {P : Prop} (h : Pref P) : P := h
theorem make_B {prog : Program} {w : World} {A : Around} {E : Value → Shared → Prop} {s : Shared} {h₀ : Heap} {L D : Addr} {m : Str → Option Value} {news : List (Addr × Obj)} {vs : List Value} {ns : List Int} {Q : Value → Shared → Prop} (F : Fr h₀ L s.heap m) (N : News h₀ L s.heap news) (hh : A.handled = none) (hl : s.heap.IsList D vs.toArray) (hi : IntsAre vs ns) (hr : KBa.In ns) (hn : ns.length ≤ 16777216)
    (h : ∀ h' b t' k, Fr h₀ L h' m → News h₀ L h' news → KBw.bInts b = ns → Q (.bytes b t') { s with heap := h', toks := k }) : wpAny (model prog w) A (call (.type "bytes") [.ref D]) Q E s :=
  KBa.make_K F N hh hl hi hr hn fun h' t' k F' N' hr' => h h' _ t' k F' N' (KBa.ints_make hr')
theorem in_fmod2 (l : List Int) : KBa.In (l.map fun k => k.fmod 2) := by
  intro n hn
  obtain ⟨k, _, rfl⟩ := List.mem_map.mp hn
  rw [Int.fmod_eq_emod_of_nonneg _ (by decide)]
  omega
theorem bInts_inj {y b : Array UInt8} (h : KBw.bInts y = KBw.bInts b) : y = b := by
  have e : ∀ (l l' : List UInt8), l.map (fun c => (c.toNat : Int)) = l'.map (fun c => (c.toNat : Int)) → l = l' := by
    intro l
    induction l with
    | nil => intro l' h; cases l' with
      | nil => rfl
      | cons _ _ => simp at h
    | cons c l ih => intro l' h; cases l' with
      | nil => simp at h
      | cons c' l' =>
        simp only [List.map_cons, List.cons.injEq] at h
        rw [ih l' h.2, (UInt8.toNat_inj.mp (Int.ofNat_inj.mp h.1) : c = c')]
  exact Array.toList_inj.mp (e _ _ h)
theorem no_bytes {y b : Array UInt8} {l : List Int} (h : (y.toList != b.toList) = true) (hy : KBw.bInts y = l) (hb : KBw.bInts b = l) : False := by
  rw [bInts_inj (hy.trans hb.symm)] at h
  simp at h
theorem use_swap {prog : Program} {w : World} {K : Frag} {p : Program} {loose : List Str} {mean : ExcName → Option Value} {mg mb : Str → Option Value} {f : Value} {d u : Nat} {vs : List Value} {out : List Int}
    {A : Around} {h₀ : Heap} {L : Addr} {m : Str → Option Value} {news : List (Addr × Obj)} {s : Shared} {Q E : Value → Shared → Prop}
    (C : ∀ (dp un : Nat) (fr : Option (List Env)) (gd : Option (List Code)) (s : Shared) (Q E : Value → Shared → Prop), K.In s.heap → Top p loose mean mg mb s.heap → dp + d < recursionLimit → un + u < cLine →
      (∀ y t' h' tk', Ext s.heap h' → KBw.bInts y = out → Q (.bytes y t') { s with heap := h', toks := tk' }) → wpP (model prog w) (around dp un fr gd) (call f vs) Q E s) (hh : A.handled = none)
    (F : Fr h₀ L s.heap m) (N : News h₀ L s.heap news) (X : K.In h₀) (T : Top p loose mean mg mb h₀) (hd : A.depth + d < recursionLimit) (hu : A.units + u < cLine)
    (h : ∀ y t' h' k, Fr h₀ L h' m → News h₀ L h' news → KBw.bInts y = out → Q (.bytes y t') { s with heap := h', toks := k }) : wpP (model prog w) A (call f vs) Q E s := by
  obtain ⟨hd', dp, fr, gd, un⟩ := A
  cases hh
  exact C dp un fr gd s Q E (X.keeps F.keep) (T.keeps F.keep) hd hu fun y t' h' tk' keep e => h y t' h' tk' (F.keptAll keep) (N.grown keep) e

/-- a goal that the walker leaves -/
def Later (P : Prop) : Prop := P
theorem Later.out {P : Prop} (h : Later P) : P := h

section
variable {prog : Program} {w : World} {A : Around} {E : Value → Shared → Prop} {s : Shared} {env : Env} {h₀ : Heap} {x : PySem.Str} {body : List Stmt} {Q : Flow → Shared → Prop} {b : Array UInt8} {tb : Tok} {ks : List Int}
  {m₀ : PySem.Str → Option Value} {news : List (Addr × Obj)}
theorem iter_bytesN (J : Nat → (PySem.Str → Option Value) → List (Addr × Obj) → Prop)
    (hk : KBw.bInts b = ks) (hh : A.handled = none) (F : Fr h₀ env.locals s.heap m₀) (N : News h₀ env.locals s.heap news) (hR : J 0 m₀ news)
    (turn : ∀ i k t m₁ nx h tk own, ks[i]? = some k → nx.map (·.1) = news.map (·.1) → OwnOff own (news.map (·.1)) → J i m₁ nx → Fr h₀ env.locals h (fun y => if y = x then some (.int k t) else m₁ y) → News h₀ env.locals h (nx ++ own) →
      wpAny (model prog w) A (execs body env) (InvPostN h₀ env.locals (J (i + 1)) own (news.map (·.1)) { s with heap := h, toks := tk } Q) E { s with heap := h, toks := tk })
    (done : ∀ m₁ nx h tk, J ks.length m₁ nx → Fr h₀ env.locals h m₁ → News h₀ env.locals h nx → Q .next { s with heap := h, toks := tk }) :
    wpAny (model prog w) A (pyIter (.bytes b tb)) (fun it s₂ => LoopAtV prog w A h₀ env x body Q E it s₂) E s := by
  refine KBw.pyIter_bytes ?_
  refine loop_invN J (bytes_W (prog := prog) (w := w) hh s.heap.objs.size b tb hk) ?_ ?_ ?_ ?_ ⟨_, Heap.get?_push_size _ rfl, rfl, rfl⟩ (F.push _) (fun p hp => ⟨Heap.get?_push_of_some _ (N p hp).1, (N p hp).2⟩) hR ?_ ?_
  · intro hm
    exact absurd F.ns.lt ((List.mem_singleton.mp hm) ▸ Nat.lt_irrefl _)
  · intro b' hb
    rw [List.mem_singleton.mp hb]
    exact next_is_new F
  · intro p hp hI
    exact absurd (Heap.lt_size (N p hp).1) ((List.mem_singleton.mp hI) ▸ Nat.lt_irrefl _)
  · intro p hp hI
    exact absurd (Heap.lt_size (N p hp).1) ((List.mem_singleton.mp hI) ▸ Nat.lt_irrefl _)
  · rintro i v m₁ nx h tk own hi ⟨k, t, hk', rfl⟩ hm ho hj F' N'
    exact turn i k t m₁ nx h tk own hk' hm ho hj F' N'
  · exact done
end

def srt (r : List Int) : List Int := r.foldl insS []
theorem foldl_insS (r acc : List Int) (h : acc.Pairwise (· ≤ ·)) : (r.foldl insS acc).Pairwise (· ≤ ·) ∧ (r.foldl insS acc).Perm (acc ++ r) := by
  induction r generalizing acc with
  | nil => exact ⟨h, by simp⟩
  | cons k r ih =>
    obtain ⟨h1, h2⟩ := ih (insS acc k) (insS_sorted h)
    refine ⟨h1, h2.trans ?_⟩
    refine ((insS_perm acc k).append_right r).trans ?_
    exact List.perm_middle.symm
theorem srt_sorted (r : List Int) : (srt r).Pairwise (· ≤ ·) := (foldl_insS r [] .nil).1
theorem srt_perm (r : List Int) : (srt r).Perm r := (foldl_insS r [] .nil).2

local macro_rules | `(tactic| walk_at "eval Name") => `(tactic| (k_here; (with_reducible show wpAny _ _ (eval (Expr.Name (Str.ofString "order") _) (envOfC _ _ _ _ _)) _ _ _); k_dflt (refine' nameX_C ?N ?c ?m ?d ?_ ?a ?b; (case a => rfl); (case b => rfl); (case N => with_reducible assumption); (case c => rfl); (case m => kcf_m); (case d => with_reducible assumption))))
local macro_rules | `(tactic| walk_at "call ref") => `(tactic| (k_here; (with_reducible show wpAny _ _ (call (Value.ref 30) [Value.ref _, Value.int _ _]) _ _ _); k_dflt (refine' insort_K ?F ?N (fun _ => Upd.head ?off) ?X ?T ?hI ?hs ?hz ?hh ?d ?u ?_; (case F => k_asm); (case N => k_asm); (case off => with_reducible assumption); (case X => assumption); (case T => assumption); (case hI => with_reducible assumption); (case hs => with_reducible assumption); (case hz => omega); (case hh => exact rfl); (case d => ktr_room); (case u => ktr_units)); intro ws' h' k' F' N' hI' hs' hl'))

set_option maxHeartbeats 1000000 in
theorem inner5 (w : World) (loose : List Str) (mean : ExcName → Option Value) (mg mb : Str → Option Value) :
    ∀ (st : Stmt) (sc : Scope), lawIn = [st] → lawSc = sc →
    ∀ (fa : Addr) (cd : Value) (s₁ : Shared) (h : Heap) (tk : Nat) (m : Str → Option Value) (y : Array UInt8) (ty : Tok) (r : List Int) (D : Addr) (oa ob : Obj) (rest : List (Addr × Obj)) (Q : Flow → Shared → Prop), (Mine.hd.heap_39 w.params).In s₁.heap → Top Mine.hd.view_39 loose mean mg mb s₁.heap →
    KBw.bInts y = r → r.length ≤ 8 →
    Fr s₁.heap s₁.heap.objs.size h m → News s₁.heap s₁.heap.objs.size h ((D, PySem.W.listOf #[] 0) :: rest) → (∀ p ∈ rest, p.1 ≠ D) →
    (s₁.heap.objs.size + 1 + 1, oa) ∈ rest → (s₁.heap.objs.size + 1, ob) ∈ rest → oa.data = .cell (some (.ref D)) → ob.data = .cell (some (.bytes y ty)) →
    (∀ m' ws n h' tk', Fr s₁.heap s₁.heap.objs.size h' m' → News s₁.heap s₁.heap.objs.size h' ((D, PySem.W.listOf (ws : List Value).toArray n) :: rest) → IntsAre ws (srt r) →
      (∀ z, z ≠ Str.ofString "octet" → m' z = m z) → Q .next { s₁ with heap := h', toks := tk' }) →
    wpAny (model Challenge.rw_ic0001_02.row.toRowW.prog w) (callerA.deeper (envOfC (Str.ofString "law") sc s₁.heap.objs.size fa cd)) (exec st (envOfC (Str.ofString "law") sc s₁.heap.objs.size fa cd)) Q (fun _ _ => False) { s₁ with heap := h, toks := tk } := by
  w_top off
  k_fill
  intro st sc hb hs fa cd s₁ h tk m y ty r D oa ob rest Q X T hy hr8 F N hrest hm1 hm2 da db hQ
  dsimp only [lawIn, lawB, PySem.Challenge.pw_ic0001_02] at hb
  dsimp only [lawSc, PySem.Challenge.pw_ic0001_02] at hs
  cases hb
  cases hs
  refine For_invVF F rfl rfl ?_
  refine nameX_C N rfl (List.mem_cons_of_mem _ hm2) db ?_ rfl rfl
  refine iter_bytesN (fun i m₁ nx => ∃ ws n, nx = (D, PySem.W.listOf (ws : List Value).toArray n) :: rest ∧ IntsAre ws ((r.take i).foldl insS []) ∧ ((r.take i).foldl insS []).Pairwise (· ≤ ·) ∧ ∀ z, z ≠ Str.ofString "octet" → m₁ z = m z) hy rfl F N ⟨[], 0, rfl, .nil, .nil, fun z _ => rfl⟩ ?_ ?_
  · rintro i k t m₁ nx h' tk' own hk hmap ho ⟨ws, n, rfl, hI, hs, hm⟩ F' N'
    replace F' : Fr s₁.heap s₁.heap.objs.size h' (fun y => if y = Str.ofString "octet" then some (.int k t) else m₁ y) := F'
    replace N' : News s₁.heap s₁.heap.objs.size h' ((D, PySem.W.listOf ws.toArray n) :: (rest ++ own)) := N'
    have hoff : ∀ p ∈ rest ++ own, p.1 ≠ D := by
      intro p hp
      rcases List.mem_append.mp hp with hp | hp
      · exact hrest p hp
      · exact ho p hp D (by simp)
    have hst : (r.take (i + 1)).foldl insS [] = insS ((r.take i).foldl insS []) k := by rw [List.take_add_one, hk]; simp
    have hlen : ((r.take i).foldl insS []).length ≤ 8 := by
      have e := (foldl_insS (r.take i) [] .nil).2.length_eq
      rw [e]
      simp only [List.nil_append, List.length_take]
      omega
    generalize hacc : (r.take i).foldl insS [] = acc at *
    clear hrest ho hmap hk
    k_steps
    refine InvEndN.intro (nx := (D, PySem.W.listOf _ (n + 1)) :: rest) (by assumption) (by assumption) ⟨_, n + 1, rfl, by rw [hst]; with_reducible assumption, by rw [hst]; with_reducible assumption, fun z hz => (if_neg hz).trans (hm z hz)⟩ rfl (fun p hp => ?_) (fun p hp => ?_)
    · rcases List.mem_cons.mp hp with rfl | hp
      · exact List.mem_cons_self
      · exact List.mem_cons_of_mem _ (List.mem_append_left _ hp)
    · exact List.mem_cons_of_mem _ (List.mem_append_right _ hp)
  · rintro m₁ nx h' tk' ⟨ws, n, rfl, hI, hs, hm⟩ F' N'
    rw [List.take_length] at hI
    exact hQ m₁ ws n h' tk' F' N' hI hm

end
section
local macro_rules | `(tactic| walk_at "none of these") => `(tactic| skip)
local macro_rules | `(tactic| walk_at "none of these") => `(tactic| skip)
local macro_rules | `(tactic| walk_at "none of these") => `(tactic| skip)
local macro_rules | `(tactic| walk_at "none of these") => `(tactic| skip)
local macro_rules | `(tactic| walk_at "none of these") => `(tactic| skip)
local macro_rules | `(tactic| walk_at "none of these") => `(tactic| skip)
local macro_rules | `(tactic| walk_at "none of these") => `(tactic| skip)
local macro_rules | `(tactic| walk_at "none of these") => `(tactic| skip)
local macro_rules | `(tactic| walk_at "none of these") => `(tactic| skip)
local macro_rules | `(tactic| walk_at "none of these") => `(tactic| skip)
local macro_rules | `(tactic| walk_at "none of these") => `(tactic| skip)
local macro_rules | `(tactic| walk_at "none of these") => `(tactic| skip)
local macro_rules | `(tactic| walk_at "none of these") => `(tactic| skip)
local macro_rules | `(tactic| walk_at "none of these") => `(tactic| skip)
local macro_rules | `(tactic| walk_at "none of these") => `(tactic| skip)
local macro_rules | `(tactic| walk_at "none of these") => `(tactic| skip)
local macro_rules | `(tactic| walk_at "none of these") => `(tactic| skip)
local macro_rules | `(tactic| walk_at "none of these") => `(tactic| skip)

local macro_rules | `(tactic| walk_at "call ref") => `(tactic| (k_here; (with_reducible show wpAny _ _ (call (Value.ref 44) [Value.bytes _ _]) _ _ _); k_dflt (refine' use_tells (next_tells _ _ _ _ _ _ _ _ ?hk ?h0 ?h8) ?hh ?F ?N ?X ?T ?d ?u ?p ?_; (case hk => first | exact Pref.out (by with_reducible assumption) | assumption | exact rfl); (case h0 => (first | omega | (simp only [nxt_length, iter_length, List.length_cons, List.length_nil, List.length_map]; omega) | (simp only [nxt_length, iter_length, List.length_cons, List.length_nil, List.length_map] at *; omega))); (case h8 => (first | omega | (simp only [nxt_length, iter_length, List.length_cons, List.length_nil, List.length_map]; omega) | (simp only [nxt_length, iter_length, List.length_cons, List.length_nil, List.length_map] at *; omega))); (case hh => exact rfl); (case F => k_asm); (case N => k_asm); (case X => assumption); (case T => assumption); (case d => ktr_room); (case u => ktr_units); (case p => trivial)); intro r' h' k' F' N' hr'; obtain ⟨y', t', e9, e'⟩ := hr'; subst e9))
local macro_rules | `(tactic| walk_at "call ref") => `(tactic| (k_here; (with_reducible show wpAny _ _ (call (Value.ref 51) [Value.bytes _ _]) _ _ _); k_dflt (refine' use_tells (steps_tells _ _ _ _ _ _ _ _ ?hk ?h0 ?h8) ?hh ?F ?N ?X ?T ?d ?u ?p ?_; (case hk => first | exact Pref.out (by with_reducible assumption) | assumption | exact rfl); (case h0 => (first | omega | (simp only [nxt_length, iter_length, List.length_cons, List.length_nil, List.length_map]; omega) | (simp only [nxt_length, iter_length, List.length_cons, List.length_nil, List.length_map] at *; omega))); (case h8 => (first | omega | (simp only [nxt_length, iter_length, List.length_cons, List.length_nil, List.length_map]; omega) | (simp only [nxt_length, iter_length, List.length_cons, List.length_nil, List.length_map] at *; omega))); (case hh => exact rfl); (case F => k_asm); (case N => k_asm); (case X => assumption); (case T => assumption); (case d => ktr_room); (case u => ktr_units); (case p => trivial)); intro r' h' k' F' N' hr'; obtain ⟨t', e9⟩ := hr'; subst e9))
local macro_rules | `(tactic| walk_at "call builtin:max") => `(tactic| (k_here; (with_reducible show wpAny _ _ (call (Value.builtin _) [Value.bytes _ _]) _ _ _); k_dflt (refine' max_bytes ?F ?N ?hh ?hk ?h0 ?_; (case F => k_asm); (case N => k_asm); (case hh => exact rfl); (case hk => first | exact Pref.out (by with_reducible assumption) | assumption | exact rfl); (case h0 => (first | omega | (simp only [nxt_length, iter_length, List.length_cons, List.length_nil, List.length_map]; omega) | (simp only [nxt_length, iter_length, List.length_cons, List.length_nil, List.length_map] at *; omega)))); intro h' t' k' F' N'))
local macro_rules | `(tactic| walk_at "call type:list") => `(tactic| (k_here; (with_reducible show wpAny _ _ (call (Value.type "list") [Value.bytes _ _]) _ _ _); k_dflt (refine' list_bytes ?F ?N ?hh ?hk ?hz ?_; (case F => k_asm); (case N => k_asm); (case hh => exact rfl); (case hk => first | exact Pref.out (by with_reducible assumption) | assumption | kba_ints); (case hz => (first | omega | (simp only [nxt_length, iter_length, List.length_cons, List.length_nil, List.length_map]; omega) | (simp only [nxt_length, iter_length, List.length_cons, List.length_nil, List.length_map] at *; omega)))); intro D' vs' c' h' k' F' N' l1 i'; (try k_lt l1)))
local macro_rules | `(tactic| walk_at "call builtin:sorted") => `(tactic| (k_here; (with_reducible show wpAny _ _ (call (Value.builtin "sorted") [Value.bytes _ _]) _ _ _); k_dflt (refine' sorted_bytes ?F ?N ?hh ?hk ?hz ?_; (case F => k_asm); (case N => k_asm); (case hh => exact rfl); (case hk => first | kba_ints | exact rfl); (case hz => (first | omega | (simp only [nxt_length, iter_length, List.length_cons, List.length_nil, List.length_map]; omega) | (simp only [nxt_length, iter_length, List.length_cons, List.length_nil, List.length_map] at *; omega)))); intro D' vs' ns' c' h' k' F' N' l1 i' p' o'; (try k_lt l1)))
local macro_rules | `(tactic| walk_at "call type:bytes") => `(tactic| (k_here; (with_reducible show wpAny _ _ (call (Value.type "bytes") [Value.ref _]) _ _ _); k_dflt (refine' make_B ?F ?N ?h ?l ?i ?r ?n ?_; (case F => k_asm); (case N => k_asm); (case h => rfl); (case l => kba_isList); (case i => kba_listInts); (case r => first | (with_reducible assumption) | exact in_fmod2 _ | (intro n9 hn9; simp at hn9; omega)); (case n => first | (simp; done) | (first | omega | (simp only [nxt_length, iter_length, List.length_cons, List.length_nil, List.length_map]; omega) | (simp only [nxt_length, iter_length, List.length_cons, List.length_nil, List.length_map] at *; omega)))); intro h' b' t' k' F' N' e'; (try simp only [List.reverse_cons, List.reverse_nil, List.nil_append, List.cons_append, List.map_cons, List.map_nil] at e')))
theorem allLt_mem {d : Nat} : ∀ {l : List (Addr × Obj)}, AllLt d l → ∀ p ∈ l, @LT.lt Nat _ p.1 d
  | [], _, _, h => nomatch h
  | _ :: _, x, p, h => by
    rcases List.mem_cons.mp h with rfl | h
    · exact x.1
    · exact allLt_mem x.2 p h
theorem mx_nxt_le (r : List Int) (h : ∀ k ∈ r, 0 ≤ k) : mx (nxt r) ≤ mx r := by
  by_cases hr : r = []
  · subst hr; exact Int.le_refl _
  have hpos : 0 < r.length := List.length_pos_iff.mpr hr
  have hm := mx_mem (l := nxt r) (by rw [nxt_length]; exact hpos)
  obtain ⟨k, hk, e⟩ := List.mem_map.mp hm
  rw [← e]
  have hk' := List.mem_range.mp hk
  have g : ∀ j, j < r.length → 0 ≤ r.getD j 0 ∧ r.getD j 0 ≤ mx r := fun j hj => by
    have hmem : r.getD j 0 ∈ r := by
      rw [List.getD_eq_getElem?_getD, List.getElem?_eq_getElem hj]; exact List.getElem_mem hj
    exact ⟨h _ hmem, le_mx hmem⟩
  have h1 := g k hk'
  have h2 := g ((k + 1) % r.length) (Nat.mod_lt _ hpos)
  omega
theorem sorted_uniq : ∀ {a b : List Int}, a.Perm b → a.Pairwise (· ≤ ·) → b.Pairwise (· ≤ ·) → a = b
  | [], b, h, _, _ => (List.nil_perm.mp h).symm
  | x :: a, [], h, _, _ => absurd h.length_eq (by simp)
  | x :: a, y :: b, h, ha, hb => by
    obtain ⟨h1, h2⟩ := List.pairwise_cons.mp ha
    obtain ⟨h3, h4⟩ := List.pairwise_cons.mp hb
    have e : x = y := by
      have hx : x ∈ y :: b := h.mem_iff.mp List.mem_cons_self
      have hy : y ∈ x :: a := h.mem_iff.mpr List.mem_cons_self
      rcases List.mem_cons.mp hx with q | q
      · exact q
      · rcases List.mem_cons.mp hy with q' | q'
        · exact q'.symm
        · have := h3 x q; have := h1 y q'; omega
    subst e
    rw [sorted_uniq ((List.perm_cons x).mp h) h2 h4]

local macro_rules | `(tactic| walk_at "eval Name") => `(tactic| (k_here; (with_reducible show wpAny _ _ (eval (Expr.Name (Str.ofString "here") _) (envOfC _ _ _ _ _)) _ _ _); k_dflt (refine' nameX_C ?N ?c ?m ?d ?_ ?a ?b; (case a => rfl); (case b => rfl); (case N => with_reducible assumption); (case c => rfl); (case m => (first | exact List.Mem.head _ | exact List.Mem.tail _ (List.Mem.head _) | exact List.Mem.tail _ (List.Mem.tail _ (List.Mem.head _)) | exact List.Mem.tail _ (List.Mem.tail _ (List.Mem.tail _ (List.Mem.head _))))); (case d => with_reducible assumption))))
local macro_rules | `(tactic| walk_at "eval ListComp") => `(tactic| (k_here; (with_reducible show wpAny _ _ (eval (Expr.ListComp _ [⟨Expr.Name (Str.ofString "octet") _, _, [_], _⟩] _ _) _) _ _ _); k_dflt (refine ListComp_C (by k_asm) (by with_unfolding_all rfl) (by intro n acc; rfl) (by rfl) (by decide) (by rfl) ?_)))
local macro_rules | `(tactic| walk_at "CompSrcC") => `(tactic| (k_dflt (refine CompSrcC.none (by rfl) (by k_asm) (by k_asm) (by assumption) (by rw [PySem.sizeLine_eq]; omega) (fun gh => Later.out ?_) (fun gh => ?_))))
local macro_rules | `(tactic| walk_at "eval ListComp") => `(tactic| (k_here; (with_reducible show wpAny _ _ (eval (Expr.ListComp _ [⟨Expr.Name (Str.ofString "one") _, _, [_], _⟩] _ _) _) _ _ _); k_dflt (refine ListComp_F (by k_asm) (by with_unfolding_all rfl) (by decide) (by rfl) (by decide) (by rfl) ?_)))
local macro_rules | `(tactic| walk_at "call ref") => `(tactic| (k_here; (with_reducible show wpAny _ _ (call (Value.ref 39) [Value.ref _, Value.int _ _]) _ _ _); (k_dflt (refine' use_tells (bisect2_tells _ _ _ _ _ _ _ _ _ _ ?hI ?hs ?hz) ?hh ?F ?N ?X ?T ?d ?u ?p ?_; (case p => exact News.isList (by k_asm) (by k_mem)); (case hI => with_reducible assumption); (case hs => with_reducible assumption); (case hz => omega); (case hh => exact rfl); (case F => k_asm); (case N => k_asm); (case X => assumption); (case T => assumption); (case d => ktr_room); (case u => ktr_units))); intro r' h' k' F' N' hr'; obtain ⟨t', e9⟩ := hr'; subst e9))
local macro_rules | `(tactic| walk_at "CompSrcF") => `(tactic| k_extra "CompSrcF")
local macro_rules | `(tactic| walk_at "pyIter ref") => `(tactic| k_extra "pyIter ref")
local macro_rules | `(tactic| walk_at "exec For Name Name") => `(tactic| refine Later.out ?_)
set_option maxHeartbeats 1000000 in
theorem loop5 (w : World) (loose : List Str) (mean : ExcName → Option Value) (mg mb : Str → Option Value) :
    ∀ (st1 st2 st3 st4 st5 : Stmt) (rest : List Stmt) (sc : Scope), lawB = st1 :: st2 :: st3 :: st4 :: st5 :: rest → lawSc = sc →
    ∀ (fa : Addr) (cd : Value) (s₁ : Shared) (h : Heap) (tk : Nat) (m : Str → Option Value) (x : Array UInt8) (t u : Tok) (n : Nat) (ks : List Int) (o1 o2 : Obj) (v1 : Option Value) (Q : Flow → Shared → Prop), (Mine.hd.heap_39 w.params).In s₁.heap → Top Mine.hd.view_39 loose mean mg mb s₁.heap →
    KBw.bInts x = ks → 0 < ks.length → ks.length ≤ 8 → n ≤ 90 →
    Fr s₁.heap s₁.heap.objs.size h (fun y => if y = Str.ofString "steps" then some (.int n u) else m y) → News s₁.heap s₁.heap.objs.size h [(s₁.heap.objs.size + 1 + 1, o1), (s₁.heap.objs.size + 1, o2)] →
    o1.data = .cell v1 → o2.data = .cell (some (.bytes x t)) →
    (∀ m' h' tk' o1' o2', Fr s₁.heap s₁.heap.objs.size h' m' → News s₁.heap s₁.heap.objs.size h' [(s₁.heap.objs.size + 1 + 1, o1'), (s₁.heap.objs.size + 1, o2')] →
      (∀ z, z ≠ Str.ofString "turn" → z ≠ Str.ofString "after" → z ≠ Str.ofString "octet" → m' z = if z = Str.ofString "steps" then some (.int n u) else m z) → Q .next { s₁ with heap := h', toks := tk' }) →
    wpAny (model Challenge.rw_ic0001_02.row.toRowW.prog w) (callerA.deeper (envOfC (Str.ofString "law") sc s₁.heap.objs.size fa cd)) (exec st5 (envOfC (Str.ofString "law") sc s₁.heap.objs.size fa cd)) Q (fun _ _ => False) { s₁ with heap := h, toks := tk } := by
  w_top off
  k_fill
  intro st1 st2 st3 st4 st5 rest sc hb hs fa cd s₁ h tk m x t u n ks o1 o2 v1 Q X T hk hx hx8 hn F N d1 d2 hQ
  dsimp only [lawB, PySem.Challenge.pw_ic0001_02] at hb
  dsimp only [lawSc, PySem.Challenge.pw_ic0001_02] at hs
  cases hb
  cases hs
  k_with "pyIter ref" => k_dflt (refine iter_rangeS (n := n) (fun (r : List Int) (m₁ : Str → Option Value) (nx : List (Addr × Obj)) => r.length = ks.length ∧ KBa.In r ∧ (∃ y ty oa ob va, nx = [(s₁.heap.objs.size + 1 + 1, oa), (s₁.heap.objs.size + 1, ob)] ∧ oa.data = .cell va ∧ ob.data = .cell (some (.bytes y ty)) ∧ KBw.bInts y = r) ∧
      ∀ z, z ≠ Str.ofString "turn" → z ≠ Str.ofString "after" → z ≠ Str.ofString "octet" → m₁ z = if z = Str.ofString "steps" then some (.int n u) else m z) (fun r _ => nxt r) ks rfl (by k_asm) (small_one (by omega) (by omega) (by omega) (by omega)) ((rangeSize_nat _ _).trans (by omega)) (by k_asm) (by k_asm) ⟨rfl, bInts_in hk, ⟨_, _, _, _, _, rfl, d1, d2, hk⟩, fun z _ _ _ => rfl⟩ (Later.out ?turn) (Later.out ?done))
  k_steps
  case done =>
    unfold Later
    rintro m₁ nx h' tk' ⟨hl, hin, ⟨y, ty, oa, ob, va, rfl, da, db, hy⟩, hm⟩ F' N'
    exact hQ m₁ h' tk' oa ob F' N' hm
  case turn =>
    unfold Later
    rintro k t' r m₁ nx h' tk' own hk' ho ⟨hl, hin, ⟨y, ty, oa, ob, va, rfl, da, db, hy⟩, hm⟩ F' N'
    replace ho : OwnOff own [s₁.heap.objs.size + 1 + 1, s₁.heap.objs.size + 1] := ho
    replace F' : Fr s₁.heap s₁.heap.objs.size h' (fun y => if y = Str.ofString "turn" then some (.int k t') else m₁ y) := F'
    replace N' : News s₁.heap s₁.heap.objs.size h' ((s₁.heap.objs.size + 1 + 1, oa) :: (s₁.heap.objs.size + 1, ob) :: own) := N'
    simp only [List.map_cons, List.map_nil]
    have hmx := mx_nxt_le r fun k h => (hin k h).1
    k_steps
    · unfold Later
      (with_reducible rename Fr _ _ _ _ => F9)
      (with_reducible rename News _ _ _ _ => N9)
      (with_reducible rename _ = Data.cell (some (Value.ref _)) => d9)
      (with_reducible rename KBw.bInts _ = nxt r => e9)
      (with_reducible rename _ ∧ _ ∧ AllLt _ own => l9)
      refine inner5 w loose mean mg mb _ _ rfl rfl fa cd s₁ _ _ _ y ty r _ _ ob ((s₁.heap.objs.size + 1 + 1, _) :: (s₁.heap.objs.size + 1, ob) :: own) _ X T hy (by omega) F9 (fun p hp => N9 p (List.mem_cons_of_mem _ hp)) ?_ List.mem_cons_self (List.mem_cons_of_mem _ List.mem_cons_self) d9 db ?_
      · intro p hp
        rcases List.mem_cons.mp hp with rfl | hp
        · exact Nat.ne_of_lt l9.1
        · rcases List.mem_cons.mp hp with rfl | hp
          · exact Nat.ne_of_lt l9.2.1
          · exact Nat.ne_of_lt (allLt_mem l9.2.2 p hp)
      · intro m2 ws n2 h2 tk2 F2 N2 hI2 hm2
        rw [← done_none hm2] at F2
        have hord : ∀ ns', List.Perm ns' r → ns'.Pairwise (· ≤ ·) → ns' = srt r := fun ns' p1 p2 => sorted_uniq (p1.trans (srt_perm r).symm) p2 (srt_sorted r)
        have hbel : ∀ k, below (srt r) k = (r.filter fun n => decide (n < k)).length := fun k => ((srt_perm r).filter _).length_eq
        have hsl : (srt r).length = r.length := (srt_perm r).length_eq
        have hss := srt_sorted r
        clear F9 N9
        k_steps
        · unfold Later TurnC
          intro k0 t0 I0 oI0 C0 oC0 D0 c0 oc0 ys0 l0 h0 tk0 E0 hk0 hI0 hdc0 F0 N0 off0 ne0 o10 hM0
          unfold cellEnv
          simp only [LCg.Off3, LCg.Off1] at off0 o10
          k_with "CompSrcF" => k_dflt (refine CompSrcF.filter (fun n => decide (n < k0)) (by rfl) (by k_asm) (by k_asm) (by assumption) (by rw [PySem.sizeLine_eq]; omega) (fun gh => Later.out ?_) (fun gh => ?_))
          k_steps
          · unfold Later
            intro k1 t1 I1 oI1 C1 oC1 D1 m3 ys1 l1 h1 tk1 E1 hk1 hI1 hC1 hx1 F1 N1 off1 ne1 hM1
            k_steps
            · exact LCg.CompEnd.intro (by assumption) (by assumption) _ (by kcf_all) off1 trivial ⟨rfl, _, rfl⟩
            · exact LCg.CompEnd.intro (by assumption) (by assumption) _ (by kcf_all) off1 trivial rfl
          · rw [hbel]; simp
          · exact LCg.CompEnd.intro (by assumption) (by assumption) _ (by kcf_all) (by simp only [LCg.Off3]; exact off0) trivial ⟨rfl, _, rfl⟩
          · exact LCg.CompEnd.intro (by assumption) (by assumption) _ (by kcf_all) (by simp only [LCg.Off3]; exact off0) trivial rfl
        · (with_reducible rename Fr _ _ _ _ => F8)
          (with_reducible rename News _ _ _ _ => N8)
          refine InvEndN.intro (nx := [(s₁.heap.objs.size + 1 + 1, _), (s₁.heap.objs.size + 1, _)]) F8 N8 ⟨by rw [nxt_length]; exact hl, bInts_in e9, ⟨_, _, _, _, _, rfl, d9, by assumption, e9⟩, fun z h1 h2 h3 => ?_⟩ rfl ?_ ?_
          · simp only [h1, h2, h3, if_false]
            exact hm z h1 h2 h3
          · kcf_all
          · kcf_all
        · exfalso
          have e8 := hord _ (by with_reducible assumption) (by with_reducible assumption)
          exact absurd e8.symm (by with_reducible assumption)

end

theorem nxt_map (f g : Int → Int) (hfg : ∀ a b : Int, ((f a - f b).natAbs : Int) = g ((a - b).natAbs : Int)) (ks : List Int) : nxt (ks.map f) = (nxt ks).map g := by
  unfold nxt
  rw [List.length_map, List.map_map]
  refine List.map_congr_left fun i hi => ?_
  have hi := List.mem_range.mp hi
  have e : ∀ j, j < ks.length → (ks.map f).getD j 0 = f (ks.getD j 0) := by
    intro j hj
    simp [List.getD_eq_getElem?_getD, List.getElem?_map, hj]
  rw [e i hi, e _ (Nat.mod_lt _ (by omega))]
  exact hfg _ _
theorem nxt_one (ks : List Int) : nxt (ks.map fun k => k + 1) = nxt ks := by
  rw [nxt_map (fun k => k + 1) (fun k => k) (fun a b => by omega), List.map_id']
theorem nxt_two (ks : List Int) : nxt (ks.map fun k => 2 * k) = (nxt ks).map fun k => 2 * k := nxt_map _ _ (fun a b => by omega) ks
theorem mx_two (ks : List Int) : mx (ks.map fun k => 2 * k) = 2 * mx ks := by
  cases ks with
  | nil => rfl
  | cons a r =>
    show (r.map fun k => 2 * k).foldl max (2 * a) = 2 * r.foldl max a
    induction r generalizing a with
    | nil => rfl
    | cons b r ih =>
      simp only [List.map_cons, List.foldl_cons]
      rw [show max (2 * a) (2 * b) = 2 * max a b by omega]
      exact ih _
theorem stepsTo_two : ∀ (n : Nat) (ks : List Int), stepsTo n (ks.map fun k => 2 * k) = stepsTo n ks
  | 0, _ => rfl
  | n + 1, ks => by
    simp only [stepsTo, mx_two, nxt_two, stepsTo_two n]
    by_cases h : 0 < mx ks
    · rw [if_pos (by omega), if_pos h]
    · rw [if_neg (by omega), if_neg h]

theorem iter_add (a : Nat) : ∀ (b : Nat) (ks : List Int), iter (b + a) ks = iter b (iter a ks)
  | 0, ks => by rw [Nat.zero_add]; rfl
  | b + 1, ks => by
    rw [show b + 1 + a = (b + a) + 1 by omega]
    show nxt (iter (b + a) ks) = nxt (iter b (iter a ks))
    rw [iter_add a b]
theorem iter_succ (n : Nat) (ks : List Int) : iter (n + 1) ks = iter n (nxt ks) := iter_add 1 n ks
theorem iter_two : ∀ (n : Nat) (ks : List Int), iter n (ks.map fun k => 2 * k) = (iter n ks).map fun k => 2 * k
  | 0, _ => rfl
  | n + 1, ks => by
    show nxt (iter n _) = (nxt (iter n ks)).map _
    rw [iter_two n, nxt_two]
theorem nxt_nn (ks : List Int) : ∀ k ∈ nxt ks, 0 ≤ k := by
  intro k hk
  obtain ⟨i, _, rfl⟩ := List.mem_map.mp hk
  omega
theorem iter_nn {ks : List Int} (h : ∀ k ∈ ks, 0 ≤ k) : ∀ n, ∀ k ∈ iter n ks, 0 ≤ k
  | 0 => h
  | n + 1 => nxt_nn _
theorem iter_mx {ks : List Int} (h : ∀ k ∈ ks, 0 ≤ k) : ∀ n, mx (iter n ks) ≤ mx ks
  | 0 => Int.le_refl _
  | n + 1 => Int.le_trans (mx_nxt_le _ (iter_nn h n)) (iter_mx h n)
theorem mx_nn {ks : List Int} (h : ∀ k ∈ ks, 0 ≤ k) : 0 ≤ mx ks := by
  by_cases hr : 0 < ks.length
  · exact h _ (mx_mem hr)
  · cases ks with
    | nil => exact Int.le_refl _
    | cons a r => simp at hr
theorem steps_le : ∀ (n N : Nat) (ks : List Int), ¬ 0 < mx (iter n ks) → stepsTo N ks ≤ n
  | _, 0, _, _ => Nat.zero_le _
  | 0, N + 1, ks, h => by
    have h' : ¬ 0 < mx ks := h
    simp only [stepsTo, if_neg h']
    exact Nat.le_refl _
  | n + 1, N + 1, ks, h => by
    rw [iter_succ] at h
    have := steps_le n N (nxt ks) h
    simp only [stepsTo]
    split <;> omega

/-- the parities -/
def par (r : List Int) : List Int := (nxt r).map fun k => k.fmod 2
def rep (f : List Int → List Int) : Nat → List Int → List Int
  | 0, c => c
  | n + 1, c => rep f n (f c)
theorem fold_const (f : List Int → List Int) : ∀ (l : List Int) (c : List Int), l.foldl (fun r _ => f r) c = rep f l.length c
  | [], _ => rfl
  | _ :: l, c => fold_const f l (f c)
theorem rep_nxt : ∀ (n : Nat) (ks : List Int), rep nxt n ks = iter n ks
  | 0, _ => rfl
  | n + 1, ks => by rw [iter_succ, ← rep_nxt n]; rfl

def bit (b : Bool) : Int := if b then 1 else 0
theorem odd4 : ∀ a b c d : Bool, mx (rep par 4 [bit a, bit b, bit c, bit d]) = 0 := by decide +kernel
theorem odd8 : ∀ a b c d a' b' c' d' : Bool, mx (rep par 8 [bit a, bit b, bit c, bit d, bit a', bit b', bit c', bit d']) = 0 := by decide +kernel
theorem bit_of (k : Int) : ∃ b, k.fmod 2 = bit b := by
  rw [Int.fmod_eq_emod_of_nonneg _ (by decide)]
  rcases Int.emod_two_eq k with h | h
  · exact ⟨false, h⟩
  · exact ⟨true, h⟩
theorem odd_out (ks : List Int) (h : ks.length = 4 ∨ ks.length = 8) : mx (rep par ks.length (ks.map fun k => k.fmod 2)) = 0 := by
  rcases h with h | h
  · rw [h]
    match ks, h with
    | [a, b, c, d], _ =>
      obtain ⟨a', ha⟩ := bit_of a
      obtain ⟨b', hb⟩ := bit_of b
      obtain ⟨c', hc⟩ := bit_of c
      obtain ⟨d', hd⟩ := bit_of d
      simp only [List.map_cons, List.map_nil, ha, hb, hc, hd]
      exact odd4 _ _ _ _
  · rw [h]
    match ks, h with
    | [a, b, c, d, e, f, g, i], _ =>
      obtain ⟨a', ha⟩ := bit_of a
      obtain ⟨b', hb⟩ := bit_of b
      obtain ⟨c', hc⟩ := bit_of c
      obtain ⟨d', hd⟩ := bit_of d
      obtain ⟨e', he⟩ := bit_of e
      obtain ⟨f', hf⟩ := bit_of f
      obtain ⟨g', hg⟩ := bit_of g
      obtain ⟨i', hi⟩ := bit_of i
      simp only [List.map_cons, List.map_nil, ha, hb, hc, hd, he, hf, hg, hi]
      exact odd8 _ _ _ _ _ _ _ _
theorem par_of (ks : List Int) : (nxt ks).map (fun k => k.fmod 2) = par (ks.map fun k => k.fmod 2) := by
  unfold par nxt
  rw [List.length_map, List.map_map, List.map_map]
  refine List.map_congr_left fun i hi => ?_
  have hi := List.mem_range.mp hi
  have e : ∀ j, j < ks.length → (ks.map fun k => k.fmod 2).getD j 0 = (ks.getD j 0).fmod 2 := by
    intro j hj
    simp [List.getD_eq_getElem?_getD, List.getElem?_map, hj]
  simp only [Function.comp]
  rw [e i hi, e _ (Nat.mod_lt _ (by omega))]
  simp only [Int.fmod_eq_emod_of_nonneg _ (show (0 : Int) ≤ 2 by decide)]
  omega
theorem pars_of : ∀ (n : Nat) (ks : List Int), (iter n ks).map (fun k => k.fmod 2) = rep par n (ks.map fun k => k.fmod 2)
  | 0, _ => rfl
  | n + 1, ks => by rw [iter_succ, pars_of n, par_of]; rfl
theorem even_out (ks : List Int) (h : ks.length = 4 ∨ ks.length = 8) : ∃ hs : List Int, iter ks.length ks = hs.map fun k => 2 * k := by
  have h0 := odd_out ks h
  rw [← pars_of] at h0
  refine ⟨(iter ks.length ks).map fun k => k / 2, ?_⟩
  rw [List.map_map]
  have e : (iter ks.length ks).map ((fun k => 2 * k) ∘ fun k => k / 2) = (iter ks.length ks).map id := by
    refine List.map_congr_left fun k hk => ?_
    have h1 : k.fmod 2 ≤ mx ((iter ks.length ks).map fun k => k.fmod 2) := le_mx (List.mem_map.mpr ⟨k, hk, rfl⟩)
    rw [h0, Int.fmod_eq_emod_of_nonneg _ (by decide)] at h1
    show 2 * (k / 2) = k
    omega
  rw [e, List.map_id]
theorem iter_len (n : Nat) (ks : List Int) : (iter n ks).length = ks.length := iter_length n ks
theorem zero_after {M : Nat} (hM : M = 4 ∨ M = 8) : ∀ (j : Nat) (ks : List Int), ks.length = M → (∀ k ∈ ks, 0 ≤ k) → mx ks < 2 ^ j → mx (iter (M * j) ks) = 0
  | 0, ks, _, h, hm => by
    have := mx_nn h
    have hm : mx ks < 1 := hm
    show mx ks = 0
    omega
  | j + 1, ks, hl, h, hm => by
    obtain ⟨hs, e⟩ := even_out ks (by rw [hl]; exact hM)
    rw [hl] at e
    have h1 := iter_mx h M
    have hn := iter_nn h M
    rw [e] at h1 hn
    rw [mx_two] at h1
    have hn' : ∀ k ∈ hs, 0 ≤ k := fun k hk => by have := hn (2 * k) (List.mem_map.mpr ⟨k, hk, rfl⟩); omega
    have hl' : hs.length = M := by have := congrArg List.length e; rw [iter_len, List.length_map, hl] at this; exact this.symm
    rw [show M * (j + 1) = M * j + M from Nat.mul_succ M j, iter_add, e, iter_two, mx_two]
    have hp : (2 : Int) ^ (j + 1) = 2 ^ j * 2 := Int.pow_succ 2 j
    rw [zero_after hM j hs hl' hn' (by omega)]
    rfl
theorem steps_few {M : Nat} (hM : M = 4 ∨ M = 8) (ks : List Int) (hl : ks.length = M) (h : ∀ k ∈ ks, 0 ≤ k ∧ k < 32) : stepsTo 90 ks ≤ M * 5 := by
  refine steps_le _ _ _ ?_
  rw [zero_after hM 5 ks hl (fun k hk => (h k hk).1) ?_]
  · decide
  · have h0 : 0 < ks.length := by omega
    exact (h _ (mx_mem h0)).2

/- rings of three -/
def Tri (x y z : Int) : Prop := 0 ≤ x ∧ 0 ≤ y ∧ 0 ≤ z ∧ (x = y + z ∨ y = x + z ∨ z = x + y)
theorem nxt3 (x y z : Int) : nxt [x, y, z] = [((x - y).natAbs : Int), ((y - z).natAbs : Int), ((z - x).natAbs : Int)] := by simp [nxt, List.range, List.range.loop]
theorem three_stay : ∀ (k : Nat) (x y z : Int), Tri x y z → (x = 0 ∨ y = 0 ∨ z = 0) → ∃ x' y' z', rep nxt k [x, y, z] = [x', y', z'] ∧ Tri x' y' z' ∧ (x' = 0 ∨ y' = 0 ∨ z' = 0)
  | 0, x, y, z, h, h0 => ⟨x, y, z, rfl, h, h0⟩
  | k + 1, x, y, z, h, h0 => by
    show ∃ x' y' z', rep nxt k (nxt [x, y, z]) = _ ∧ _
    rw [nxt3]
    unfold Tri at h
    exact three_stay k _ _ _ (by unfold Tri; omega) (by omega)
theorem three_run : ∀ (n k : Nat) (x y z : Int), n ≤ k → Tri x y z → x ≤ n → y ≤ n → z ≤ n → ∃ x' y' z', rep nxt k [x, y, z] = [x', y', z'] ∧ Tri x' y' z' ∧ (x' = 0 ∨ y' = 0 ∨ z' = 0)
  | 0, k, x, y, z, _, h, h1, h2, h3 => three_stay k x y z h (by unfold Tri at h; omega)
  | n + 1, k, x, y, z, hk, h, h1, h2, h3 => by
    by_cases h0 : x = 0 ∨ y = 0 ∨ z = 0
    · exact three_stay k x y z h h0
    · obtain ⟨k, rfl⟩ : ∃ k', k = k' + 1 := ⟨k - 1, by omega⟩
      show ∃ x' y' z', rep nxt k (nxt [x, y, z]) = _ ∧ _
      rw [nxt3]
      unfold Tri at h
      exact three_run n k _ _ _ (by omega) (by unfold Tri; omega) (by omega) (by omega) (by omega)
theorem three_out (ks : List Int) (h : ks.length = 3) (h32 : ∀ k ∈ ks, 0 ≤ k ∧ k < 32) : ∀ ns', List.Perm ns' (rep nxt 120 ks) → ns'.Pairwise (· ≤ ·) → ns' = [0, mx (rep nxt 120 ks), mx (rep nxt 120 ks)] := by
  match ks, h with
  | [x, y, z], _ =>
    have hx := h32 x (by simp)
    have hy := h32 y (by simp)
    have hz := h32 z (by simp)
    obtain ⟨a, b, c, e, hT, h0⟩ : ∃ x' y' z', rep nxt 120 [x, y, z] = [x', y', z'] ∧ Tri x' y' z' ∧ (x' = 0 ∨ y' = 0 ∨ z' = 0) := by
      show ∃ x' y' z', rep nxt 119 (nxt [x, y, z]) = _ ∧ _
      rw [nxt3]
      exact three_run 31 119 _ _ _ (by omega) (by unfold Tri; omega) (by omega) (by omega) (by omega)
    rw [e]
    intro ns' p o
    obtain ⟨ha, hb, hc, hT⟩ := hT
    have hm : ∀ m, 0 ≤ m → mx [0, m, m] = m ∧ mx [m, 0, m] = m ∧ mx [m, m, 0] = m := by
      intro m hm
      refine ⟨?_, ?_, ?_⟩ <;> simp only [mx, List.foldl] <;> omega
    have hso : ∀ m : Int, 0 ≤ m → [0, m, m].Pairwise (· ≤ ·) := by
      intro m hm
      simp [hm]
    rcases h0 with rfl | rfl | rfl
    · have : b = c := by omega
      subst this
      rw [(hm b hb).1]
      exact sorted_uniq p o (hso b hb)
    · have : a = c := by omega
      subst this
      rw [(hm a ha).2.1]
      exact sorted_uniq (p.trans (List.Perm.swap _ _ _)) o (hso a ha)
    · have : a = b := by omega
      subst this
      rw [(hm a ha).2.2]
      exact sorted_uniq (p.trans (((List.Perm.swap _ _ _).cons _).trans (List.Perm.swap _ _ _))) o (hso a ha)

/- turned on, and from the other end -/
theorem mx_perm {a b : List Int} (h : a.Perm b) : mx a = mx b := by
  by_cases h0 : 0 < a.length
  · exact Int.le_antisymm (le_mx (h.mem_iff.mp (mx_mem h0))) (le_mx (h.mem_iff.mpr (mx_mem (h.length_eq ▸ h0))))
  · have ha : a = [] := by cases a with
      | nil => rfl
      | cons _ _ => simp at h0
    subst ha
    rw [List.nil_perm.mp h]
theorem nxt4 (v0 v1 v2 v3 : Int) : nxt [v0, v1, v2, v3] = [((v0 - v1).natAbs : Int), ((v1 - v2).natAbs : Int), ((v2 - v3).natAbs : Int), ((v3 - v0).natAbs : Int)] := by simp [nxt, List.range, List.range.loop]
theorem stepsTo_step (n : Nat) (ks : List Int) : stepsTo (n + 1) ks = if 0 < mx ks then stepsTo n (nxt ks) + 1 else 0 := rfl
theorem st_rot4 : ∀ (n : Nat) (v0 v1 v2 v3 : Int), stepsTo n [v1, v2, v3, v0] = stepsTo n [v0, v1, v2, v3]
  | 0, _, _, _, _ => rfl
  | n + 1, v0, v1, v2, v3 => by
    have e : mx [v1, v2, v3, v0] = mx [v0, v1, v2, v3] := mx_perm (List.perm_append_comm (l₁ := [v1, v2, v3]) (l₂ := [v0]))
    rw [stepsTo_step, stepsTo_step, e, nxt4 v1 v2 v3 v0, nxt4 v0 v1 v2 v3, st_rot4 n]
theorem st_rev4 : ∀ (n : Nat) (v0 v1 v2 v3 : Int), stepsTo n [v3, v2, v1, v0] = stepsTo n [v0, v1, v2, v3]
  | 0, _, _, _, _ => rfl
  | n + 1, v0, v1, v2, v3 => by
    have e : mx [v3, v2, v1, v0] = mx [v0, v1, v2, v3] := mx_perm (List.reverse_perm [v0, v1, v2, v3])
    have c : ∀ a b : Int, ((a - b).natAbs : Int) = ((b - a).natAbs : Int) := fun a b => by omega
    have e2 : nxt [v3, v2, v1, v0] = [((v2 - v3).natAbs : Int), ((v1 - v2).natAbs : Int), ((v0 - v1).natAbs : Int), ((v3 - v0).natAbs : Int)] := by
      rw [nxt4 v3 v2 v1 v0]
      rw [c v3 v2, c v2 v1, c v1 v0, c v0 v3]
    rw [stepsTo_step, stepsTo_step, e, e2, nxt4 v0 v1 v2 v3, st_rot4 n, st_rev4 n]
theorem nxt8 (v0 v1 v2 v3 v4 v5 v6 v7 : Int) : nxt [v0, v1, v2, v3, v4, v5, v6, v7] = [((v0 - v1).natAbs : Int), ((v1 - v2).natAbs : Int), ((v2 - v3).natAbs : Int), ((v3 - v4).natAbs : Int), ((v4 - v5).natAbs : Int), ((v5 - v6).natAbs : Int), ((v6 - v7).natAbs : Int), ((v7 - v0).natAbs : Int)] := by simp [nxt, List.range, List.range.loop]
theorem st_rot8 : ∀ (n : Nat) (v0 v1 v2 v3 v4 v5 v6 v7 : Int), stepsTo n [v1, v2, v3, v4, v5, v6, v7, v0] = stepsTo n [v0, v1, v2, v3, v4, v5, v6, v7]
  | 0, _, _, _, _, _, _, _, _ => rfl
  | n + 1, v0, v1, v2, v3, v4, v5, v6, v7 => by
    have e : mx [v1, v2, v3, v4, v5, v6, v7, v0] = mx [v0, v1, v2, v3, v4, v5, v6, v7] := mx_perm (List.perm_append_comm (l₁ := [v1, v2, v3, v4, v5, v6, v7]) (l₂ := [v0]))
    rw [stepsTo_step, stepsTo_step, e, nxt8 v1 v2 v3 v4 v5 v6 v7 v0, nxt8 v0 v1 v2 v3 v4 v5 v6 v7, st_rot8 n]
theorem st_rev8 : ∀ (n : Nat) (v0 v1 v2 v3 v4 v5 v6 v7 : Int), stepsTo n [v7, v6, v5, v4, v3, v2, v1, v0] = stepsTo n [v0, v1, v2, v3, v4, v5, v6, v7]
  | 0, _, _, _, _, _, _, _, _ => rfl
  | n + 1, v0, v1, v2, v3, v4, v5, v6, v7 => by
    have e : mx [v7, v6, v5, v4, v3, v2, v1, v0] = mx [v0, v1, v2, v3, v4, v5, v6, v7] := mx_perm (List.reverse_perm [v0, v1, v2, v3, v4, v5, v6, v7])
    have c : ∀ a b : Int, ((a - b).natAbs : Int) = ((b - a).natAbs : Int) := fun a b => by omega
    have e2 : nxt [v7, v6, v5, v4, v3, v2, v1, v0] = [((v6 - v7).natAbs : Int), ((v5 - v6).natAbs : Int), ((v4 - v5).natAbs : Int), ((v3 - v4).natAbs : Int), ((v2 - v3).natAbs : Int), ((v1 - v2).natAbs : Int), ((v0 - v1).natAbs : Int), ((v7 - v0).natAbs : Int)] := by
      rw [nxt8 v7 v6 v5 v4 v3 v2 v1 v0]
      rw [c v7 v6, c v6 v5, c v5 v4, c v4 v3, c v3 v2, c v2 v1, c v1 v0, c v0 v7]
    rw [stepsTo_step, stepsTo_step, e, e2, nxt8 v0 v1 v2 v3 v4 v5 v6 v7, st_rot8 n, st_rev8 n]

section
local macro_rules | `(tactic| walk_at "none of these") => `(tactic| skip)
local macro_rules | `(tactic| walk_at "none of these") => `(tactic| skip)
local macro_rules | `(tactic| walk_at "none of these") => `(tactic| skip)
local macro_rules | `(tactic| walk_at "none of these") => `(tactic| skip)
local macro_rules | `(tactic| walk_at "none of these") => `(tactic| skip)
local macro_rules | `(tactic| walk_at "none of these") => `(tactic| skip)
local macro_rules | `(tactic| walk_at "none of these") => `(tactic| skip)
local macro_rules | `(tactic| walk_at "none of these") => `(tactic| skip)
local macro_rules | `(tactic| walk_at "none of these") => `(tactic| skip)
local macro_rules | `(tactic| walk_at "none of these") => `(tactic| skip)
local macro_rules | `(tactic| walk_at "none of these") => `(tactic| skip)
local macro_rules | `(tactic| walk_at "none of these") => `(tactic| skip)
local macro_rules | `(tactic| walk_at "none of these") => `(tactic| skip)
local macro_rules | `(tactic| walk_at "none of these") => `(tactic| skip)
local macro_rules | `(tactic| walk_at "none of these") => `(tactic| skip)
local macro_rules | `(tactic| walk_at "none of these") => `(tactic| skip)
local macro_rules | `(tactic| walk_at "none of these") => `(tactic| skip)
local macro_rules | `(tactic| walk_at "none of these") => `(tactic| skip)
local macro_rules | `(tactic| walk_at "none of these") => `(tactic| skip)
local macro_rules | `(tactic| walk_at "none of these") => `(tactic| skip)
local macro_rules | `(tactic| walk_at "none of these") => `(tactic| skip)
local macro_rules | `(tactic| walk_at "none of these") => `(tactic| skip)
local macro_rules | `(tactic| walk_at "none of these") => `(tactic| skip)
local macro_rules | `(tactic| walk_at "none of these") => `(tactic| skip)
local macro_rules | `(tactic| walk_at "none of these") => `(tactic| skip)
local macro_rules | `(tactic| walk_at "none of these") => `(tactic| skip)
local macro_rules | `(tactic| walk_at "none of these") => `(tactic| skip)
local macro_rules | `(tactic| walk_at "none of these") => `(tactic| skip)
local macro_rules | `(tactic| walk_at "none of these") => `(tactic| skip)
local macro_rules | `(tactic| walk_at "none of these") => `(tactic| skip)
local macro_rules | `(tactic| walk_at "none of these") => `(tactic| skip)
local macro_rules | `(tactic| walk_at "none of these") => `(tactic| skip)
local macro_rules | `(tactic| walk_at "none of these") => `(tactic| skip)

local macro_rules | `(tactic| walk_at "call ref") => `(tactic| (k_here; (with_reducible show wpAny _ _ (call (Value.ref 44) [Value.bytes _ _]) _ _ _); k_dflt (refine' use_tells (next_tells _ _ _ _ _ _ _ _ ?hk ?h0 ?h8) ?hh ?F ?N ?X ?T ?d ?u ?p ?_; (case hk => first | exact Pref.out (by with_reducible assumption) | assumption | exact rfl); (case h0 => (first | omega | (simp only [nxt_length, iter_length, List.length_cons, List.length_nil, List.length_map]; omega) | (simp only [nxt_length, iter_length, List.length_cons, List.length_nil, List.length_map] at *; omega))); (case h8 => (first | omega | (simp only [nxt_length, iter_length, List.length_cons, List.length_nil, List.length_map]; omega) | (simp only [nxt_length, iter_length, List.length_cons, List.length_nil, List.length_map] at *; omega))); (case hh => exact rfl); (case F => k_asm); (case N => k_asm); (case X => assumption); (case T => assumption); (case d => ktr_room); (case u => ktr_units); (case p => trivial)); intro r' h' k' F' N' hr'; obtain ⟨y', t', e9, e'⟩ := hr'; subst e9))
local macro_rules | `(tactic| walk_at "call ref") => `(tactic| (k_here; (with_reducible show wpAny _ _ (call (Value.ref 51) [Value.bytes _ _]) _ _ _); k_dflt (refine' use_tells (steps_tells _ _ _ _ _ _ _ _ ?hk ?h0 ?h8) ?hh ?F ?N ?X ?T ?d ?u ?p ?_; (case hk => first | exact Pref.out (by with_reducible assumption) | assumption | exact rfl); (case h0 => (first | omega | (simp only [nxt_length, iter_length, List.length_cons, List.length_nil, List.length_map]; omega) | (simp only [nxt_length, iter_length, List.length_cons, List.length_nil, List.length_map] at *; omega))); (case h8 => (first | omega | (simp only [nxt_length, iter_length, List.length_cons, List.length_nil, List.length_map]; omega) | (simp only [nxt_length, iter_length, List.length_cons, List.length_nil, List.length_map] at *; omega))); (case hh => exact rfl); (case F => k_asm); (case N => k_asm); (case X => assumption); (case T => assumption); (case d => ktr_room); (case u => ktr_units); (case p => trivial)); intro r' h' k' F' N' hr'; obtain ⟨t', e9⟩ := hr'; subst e9))
local macro_rules | `(tactic| walk_at "call builtin:max") => `(tactic| (k_here; (with_reducible show wpAny _ _ (call (Value.builtin _) [Value.bytes _ _]) _ _ _); k_dflt (refine' max_bytes ?F ?N ?hh ?hk ?h0 ?_; (case F => k_asm); (case N => k_asm); (case hh => exact rfl); (case hk => first | exact Pref.out (by with_reducible assumption) | assumption | exact rfl); (case h0 => (first | omega | (simp only [nxt_length, iter_length, List.length_cons, List.length_nil, List.length_map]; omega) | (simp only [nxt_length, iter_length, List.length_cons, List.length_nil, List.length_map] at *; omega)))); intro h' t' k' F' N'))
local macro_rules | `(tactic| walk_at "call type:list") => `(tactic| (k_here; (with_reducible show wpAny _ _ (call (Value.type "list") [Value.bytes _ _]) _ _ _); k_dflt (refine' list_bytes ?F ?N ?hh ?hk ?hz ?_; (case F => k_asm); (case N => k_asm); (case hh => exact rfl); (case hk => first | exact Pref.out (by with_reducible assumption) | assumption | kba_ints); (case hz => (first | omega | (simp only [nxt_length, iter_length, List.length_cons, List.length_nil, List.length_map]; omega) | (simp only [nxt_length, iter_length, List.length_cons, List.length_nil, List.length_map] at *; omega)))); intro D' vs' c' h' k' F' N' l1 i'; (try k_lt l1)))
local macro_rules | `(tactic| walk_at "call builtin:sorted") => `(tactic| (k_here; (with_reducible show wpAny _ _ (call (Value.builtin "sorted") [Value.bytes _ _]) _ _ _); k_dflt (refine' sorted_bytes ?F ?N ?hh ?hk ?hz ?_; (case F => k_asm); (case N => k_asm); (case hh => exact rfl); (case hk => first | kba_ints | exact rfl); (case hz => (first | omega | (simp only [nxt_length, iter_length, List.length_cons, List.length_nil, List.length_map]; omega) | (simp only [nxt_length, iter_length, List.length_cons, List.length_nil, List.length_map] at *; omega)))); intro D' vs' ns' c' h' k' F' N' l1 i' p' o'; (try k_lt l1)))
local macro_rules | `(tactic| walk_at "call type:bytes") => `(tactic| (k_here; (with_reducible show wpAny _ _ (call (Value.type "bytes") [Value.ref _]) _ _ _); k_dflt (refine' make_B ?F ?N ?h ?l ?i ?r ?n ?_; (case F => k_asm); (case N => k_asm); (case h => rfl); (case l => kba_isList); (case i => kba_listInts); (case r => first | (with_reducible assumption) | exact in_fmod2 _ | (intro n9 hn9; simp at hn9; omega)); (case n => first | (simp; done) | (first | omega | (simp only [nxt_length, iter_length, List.length_cons, List.length_nil, List.length_map]; omega) | (simp only [nxt_length, iter_length, List.length_cons, List.length_nil, List.length_map] at *; omega)))); intro h' b' t' k' F' N' e'; (try simp only [List.reverse_cons, List.reverse_nil, List.nil_append, List.cons_append, List.map_cons, List.map_nil] at e')))
local macro_rules | `(tactic| walk_at "pyIter ref") => `(tactic| k_extra "pyIter ref")
local macro_rules | `(tactic| walk_at "eval ListComp") => `(tactic| (k_here; (with_reducible show wpAny _ _ (eval (Expr.ListComp _ [⟨Expr.Name (Str.ofString "octet") _, _, [], _⟩] _ _) _) _ _ _); k_dflt (refine ListComp_B (by k_asm) (by with_unfolding_all rfl) (by decide) (by rfl) (by decide) (by rfl) ?_)))
local macro_rules | `(tactic| walk_at "CompSrcB") => `(tactic| ((with_reducible show CompSrcB _ _ _ _ _ _ _ (Expr.BinOp _ .Mult _ _) _ _ _ _ _ _); k_dflt (refine' CompSrcB.map (fun k => 2 * k) (by rfl) (by k_asm) (by k_asm) (by first | exact Pref.out (by with_reducible assumption) | assumption) (by rw [PySem.sizeLine_eq]; (first | omega | (simp only [nxt_length, iter_length, List.length_cons, List.length_nil, List.length_map]; omega) | (simp only [nxt_length, iter_length, List.length_cons, List.length_nil, List.length_map] at *; omega))) (fun gh k' t' I' oI' C' oC' D' m' ys' h' tk' E' hk' hC' hx' F' N' off' ne' hMark' => ?_) (fun gh => ?_); (all_goals (try (simp only [LCg.Off3, and_true] at off'))))))
local macro_rules | `(tactic| walk_at "CompSrcB") => `(tactic| ((with_reducible show CompSrcB _ _ _ _ _ _ _ (Expr.BinOp _ .Add _ _) _ _ _ _ _ _); k_dflt (refine' CompSrcB.map (fun k => k + 1) (by rfl) (by k_asm) (by k_asm) (by first | exact Pref.out (by with_reducible assumption) | assumption) (by rw [PySem.sizeLine_eq]; (first | omega | (simp only [nxt_length, iter_length, List.length_cons, List.length_nil, List.length_map]; omega) | (simp only [nxt_length, iter_length, List.length_cons, List.length_nil, List.length_map] at *; omega))) (fun gh k' t' I' oI' C' oC' D' m' ys' h' tk' E' hk' hC' hx' F' N' off' ne' hMark' => ?_) (fun gh => ?_); (all_goals (try (simp only [LCg.Off3, and_true] at off'))))))
local macro_rules | `(tactic| walk_at "CompSrcB") => `(tactic| ((with_reducible show CompSrcB _ _ _ _ _ _ _ (Expr.BinOp _ .Mod _ _) _ _ _ _ _ _); k_dflt (refine' CompSrcB.map (fun k => k.fmod 2) (by rfl) (by k_asm) (by k_asm) (by first | exact Pref.out (by with_reducible assumption) | assumption) (by rw [PySem.sizeLine_eq]; (first | omega | (simp only [nxt_length, iter_length, List.length_cons, List.length_nil, List.length_map]; omega) | (simp only [nxt_length, iter_length, List.length_cons, List.length_nil, List.length_map] at *; omega))) (fun gh k' t' I' oI' C' oC' D' m' ys' h' tk' E' hk' hC' hx' F' N' off' ne' hMark' => ?_) (fun gh => ?_); (all_goals (try (simp only [LCg.Off3, and_true] at off'))))))
theorem frame1 {h₀ h : Heap} {L : Addr} {m : Str → Option Value} {a : Str} {u : Value} (F : Fr h₀ L h m) (ha : m a = some u) : Fr h₀ L h (fun z => if z = a then some u else m z) := by
  have e : (fun z => if z = a then some u else m z) = m := by
    funext z
    by_cases hz : z = a
    · subst hz; simp [ha]
    · simp [hz]
  rw [e]; exact F
theorem frame_in {h₀ h : Heap} {L : Addr} {m : Str → Option Value} {a b : Str} {u v : Value} (F : Fr h₀ L h (fun z => if z = b then some v else m z)) (ha : m a = some u) : Fr h₀ L h (fun z => if z = b then some v else if z = a then some u else m z) := by
  have e : (fun z => if z = a then some u else m z) = m := by
    funext z
    by_cases hz : z = a
    · subst hz; simp [ha]
    · simp [hz]
  have e' : (fun z => if z = b then some v else if z = a then some u else m z) = (fun z => if z = b then some v else m z) := by
    funext z
    exact congrArg (fun g => if z = b then some v else g) (congrFun e z)
  rw [e']; exact F
set_option maxHeartbeats 2000000 in
theorem rest12 (w : World) (loose : List Str) (mean : ExcName → Option Value) (mg mb : Str → Option Value) :
    ∀ (st1 st2 st3 st4 st5 st6 st7 st8 st9 st10 st11 : Stmt) (rest : List Stmt) (sc : Scope), lawB = st1 :: st2 :: st3 :: st4 :: st5 :: st6 :: st7 :: st8 :: st9 :: st10 :: st11 :: rest → lawSc = sc →
    ∀ (fa : Addr) (cd : Value) (s₁ : Shared) (h : Heap) (tk : Nat) (m : Str → Option Value) (x : Array UInt8) (t u u' : Tok) (ks : List Int) (n : Nat), (Mine.hd.heap_39 w.params).In s₁.heap → Top Mine.hd.view_39 loose mean mg mb s₁.heap →
    KBw.bInts x = ks → (∀ k ∈ ks, 0 ≤ k ∧ k < 32) → ks.length = n → n = 4 ∨ n = 8 →
    Fr s₁.heap s₁.heap.objs.size h (fun y => if y = Str.ofString "steps" then some (.int (stepsTo 90 ks : Nat) u') else if y = Str.ofString "ring" then some (.bytes x t) else if y = Str.ofString "many" then some (.int (n : Nat) u) else m y) → News s₁.heap s₁.heap.objs.size h [] →
    wpAny (model Challenge.rw_ic0001_02.row.toRowW.prog w) (callerA.deeper (envOfC (Str.ofString "law") sc s₁.heap.objs.size fa cd)) (execs rest (envOfC (Str.ofString "law") sc s₁.heap.objs.size fa cd)) (fun fl s' => LawOk s₁ (retOf fl) s') (fun _ _ => False) { s₁ with heap := h, toks := tk } := by
  w_top off
  k_fill
  intro st1 st2 st3 st4 st5 st6 st7 st8 st9 st10 st11 rest sc hb hs fa cd s₁ h tk m x t u u' ks n X T hk h32 hn h48 F N
  dsimp only [lawB, PySem.Challenge.pw_ic0001_02] at hb
  dsimp only [lawSc, PySem.Challenge.pw_ic0001_02] at hs
  cases hb
  cases hs
  have h4 : 4 ≤ n := by omega
  have h8 : n ≤ 8 := by omega
  have ho0 : mx (rep par n (ks.map fun k => k.fmod 2)) = 0 := by subst hn; exact odd_out ks h48
  have hp3 : Pref (KBw.bInts (KBy.picked x none (some 3)) = ks.take 3) := (KBc.ints_picked hk none (some 3)).trans (by subst hn; rcases h48 with e | e <;> rw [e] <;> rfl)
  k_with "pyIter ref" => first
    | k_dflt (refine iter_rangeS (n := n) (fun (r : List Int) (m₁ : Str → Option Value) (nx : List (Addr × Obj)) => nx = [] ∧ r.length = n ∧ (∃ y ty, m₁ (Str.ofString "odd") = some (.bytes y ty) ∧ KBw.bInts y = r) ∧ m₁ (Str.ofString "ring") = some (.bytes x t)) (fun r _ => par r) (ks.map fun k => k.fmod 2) rfl (by k_asm) (small_one (by omega) (by omega) (by omega) (by omega)) ((rangeSize_nat _ _).trans (by omega)) (by k_asm) (News.nil) ⟨rfl, by rw [List.length_map]; exact hn, ⟨_, _, rfl, by assumption⟩, rfl⟩ (Later.out ?turn) (Later.out ?done))
    | k_dflt (refine iter_rangeS (n := 120) (fun (r : List Int) (m₁ : Str → Option Value) (nx : List (Addr × Obj)) => nx = [] ∧ r.length = 3 ∧ (∃ y ty, m₁ (Str.ofString "three") = some (.bytes y ty) ∧ KBw.bInts y = r)) (fun r _ => nxt r) (ks.take 3) rfl (by k_asm) (by first | decide | rfl) (by first | rfl | decide) (by k_asm) (News.nil) ⟨rfl, by rw [List.length_take]; omega, ⟨_, _, rfl, by first | exact Pref.out (by with_reducible assumption) | assumption⟩⟩ (Later.out ?turn2) (Later.out ?done2))
  k_steps
  · unfold Later
    rintro k t' r m₁ nx h' tk' own hk' ho ⟨rfl, hl, ⟨y, ty, hod, hy⟩, hri⟩ F' N'
    replace F' : Fr s₁.heap s₁.heap.objs.size h' (fun z => if z = Str.ofString "turn" then some (.int k t') else m₁ z) := F'
    replace N' : News s₁.heap s₁.heap.objs.size h' own := N'
    have F8 := frame_in F' hod
    clear F'
    k_steps
    (with_reducible rename Fr _ _ _ _ => F9)
    (with_reducible rename News _ _ _ _ => N9)
    exact InvEndN.intro (nx := []) F9 N9 ⟨rfl, by rw [par, List.length_map, nxt_length]; exact hl, ⟨_, _, rfl, by assumption⟩, hri⟩ rfl (by kcf_all) (by kcf_all)
  · unfold Later
    rintro m₁ nx h' tk' ⟨rfl, hl, ⟨y, ty, hod, hy⟩, hri⟩ F' N'
    rw [fold_const, rangeKs_length] at hl hy
    have F8 := frame1 (frame1 F' hod) (a := Str.ofString "ring") (u := .bytes x t) ((if_neg (by decide)).trans hri)
    clear F'
    have h0 : 0 < (rep par n (ks.map fun k => k.fmod 2)).length := by omega
    k_steps
    · exfalso; simp_all
    · unfold Later
      rintro k2 t2 r m2 nx h2 tk2 own hk2 ho ⟨rfl, hl2, ⟨y2, ty2, hod2, hy2⟩⟩ F2 N2
      replace F2 : Fr s₁.heap s₁.heap.objs.size h2 (fun z => if z = Str.ofString "turn" then some (.int k2 t2) else m2 z) := F2
      replace N2 : News s₁.heap s₁.heap.objs.size h2 own := N2
      have F8 := frame_in F2 hod2
      clear F2
      k_steps
      (with_reducible rename Fr _ _ _ _ => F9)
      (with_reducible rename News _ _ _ _ => N9)
      exact InvEndN.intro (nx := []) F9 N9 ⟨rfl, by rw [nxt_length]; exact hl2, ⟨_, _, rfl, by assumption⟩⟩ rfl (by kcf_all) (by kcf_all)
    · unfold Later
      rintro m2 nx h2 tk2 ⟨rfl, hl2, ⟨y2, ty2, hod2, hy2⟩⟩ F2 N2
      rw [fold_const, rangeKs_length] at hl2 hy2
      have F8 := frame1 F2 hod2
      clear F2
      have h3 := three_out (ks.take 3) (by rw [List.length_take]; omega) (fun k hk => h32 k (List.mem_of_mem_take hk))
      generalize rep nxt 120 (ks.take 3) = r3 at *
      k_steps
      · exact ⟨congrArg Value.bool (by simp_all), Fr.keep (by assumption), rfl, rfl⟩
      · refine ⟨congrArg Value.bool (decide_eq_true (h3 _ (by with_reducible assumption) (by with_reducible assumption))), Fr.keep (by assumption), rfl, rfl⟩

local macro_rules | `(tactic| walk_at "execs cons Assign cons") => `(tactic| ((with_reducible show wpAny _ _ (execs (Stmt.Assign [Expr.Name (Str.ofString "odd") _] _ _ :: _) _) _ _ _); refine Later.out ?_))
set_option maxHeartbeats 2000000 in
theorem rest10 (w : World) (loose : List Str) (mean : ExcName → Option Value) (mg mb : Str → Option Value) :
    ∀ (st1 st2 st3 st4 st5 st6 st7 st8 st9 : Stmt) (rest : List Stmt) (sc : Scope), lawB = st1 :: st2 :: st3 :: st4 :: st5 :: st6 :: st7 :: st8 :: st9 :: rest → lawSc = sc →
    ∀ (fa : Addr) (cd : Value) (s₁ : Shared) (h : Heap) (tk : Nat) (m : Str → Option Value) (x : Array UInt8) (t u u' : Tok) (ks : List Int) (n : Nat), (Mine.hd.heap_39 w.params).In s₁.heap → Top Mine.hd.view_39 loose mean mg mb s₁.heap →
    KBw.bInts x = ks → (∀ k ∈ ks, 0 ≤ k ∧ k < 32) → ks.length = n → n = 4 ∨ n = 8 →
    Fr s₁.heap s₁.heap.objs.size h (fun y => if y = Str.ofString "steps" then some (.int (stepsTo 90 ks : Nat) u') else if y = Str.ofString "ring" then some (.bytes x t) else if y = Str.ofString "many" then some (.int (n : Nat) u) else m y) → News s₁.heap s₁.heap.objs.size h [] →
    wpAny (model Challenge.rw_ic0001_02.row.toRowW.prog w) (callerA.deeper (envOfC (Str.ofString "law") sc s₁.heap.objs.size fa cd)) (execs rest (envOfC (Str.ofString "law") sc s₁.heap.objs.size fa cd)) (fun fl s' => LawOk s₁ (retOf fl) s') (fun _ _ => False) { s₁ with heap := h, toks := tk } := by
  w_top off
  k_fill
  intro st1 st2 st3 st4 st5 st6 st7 st8 st9 rest sc hb hs fa cd s₁ h tk m x t u u' ks n X T hk h32 hn h48 F N
  dsimp only [lawB, PySem.Challenge.pw_ic0001_02] at hb
  dsimp only [lawSc, PySem.Challenge.pw_ic0001_02] at hs
  cases hb
  cases hs
  have h4 : 4 ≤ n := by omega
  have h8 : n ≤ 8 := by omega
  have hdbl : stepsTo 90 (ks.map fun k => 2 * k) = stepsTo 90 ks := stepsTo_two 90 ks
  have hone : nxt (ks.map fun k => k + 1) = nxt ks := nxt_one ks
  have hin2 : KBa.In (ks.map fun k => 2 * k) := by
    intro q hq
    obtain ⟨k, hk', rfl⟩ := List.mem_map.mp hq
    have := h32 k hk'
    omega
  have hin1 : KBa.In (ks.map fun k => k + 1) := by
    intro q hq
    obtain ⟨k, hk', rfl⟩ := List.mem_map.mp hq
    have := h32 k hk'
    omega
  k_steps
  · exfalso; simp_all
  · exfalso
    (with_reducible rename KBw.bInts _ = nxt ks => e2)
    (with_reducible rename KBw.bInts _ = nxt (List.map _ ks) => e1)
    exact no_bytes (by assumption) (e1.trans hone) e2
  all_goals
    unfold Later
    (with_reducible rename Fr _ _ _ _ => F9)
    exact rest12 w loose mean mg mb _ _ _ _ _ _ _ _ _ _ _ _ _ rfl rfl fa cd s₁ _ _ m x t u u' ks n X T hk h32 hn h48 F9 News.nil

end
section
local macro_rules | `(tactic| walk_at "none of these") => `(tactic| skip)
local macro_rules | `(tactic| walk_at "none of these") => `(tactic| skip)
local macro_rules | `(tactic| walk_at "none of these") => `(tactic| skip)
local macro_rules | `(tactic| walk_at "none of these") => `(tactic| skip)
local macro_rules | `(tactic| walk_at "none of these") => `(tactic| skip)
local macro_rules | `(tactic| walk_at "none of these") => `(tactic| skip)
local macro_rules | `(tactic| walk_at "none of these") => `(tactic| skip)
local macro_rules | `(tactic| walk_at "none of these") => `(tactic| skip)
local macro_rules | `(tactic| walk_at "none of these") => `(tactic| skip)
local macro_rules | `(tactic| walk_at "none of these") => `(tactic| skip)
local macro_rules | `(tactic| walk_at "none of these") => `(tactic| skip)
local macro_rules | `(tactic| walk_at "none of these") => `(tactic| skip)
local macro_rules | `(tactic| walk_at "none of these") => `(tactic| skip)
local macro_rules | `(tactic| walk_at "none of these") => `(tactic| skip)
local macro_rules | `(tactic| walk_at "none of these") => `(tactic| skip)
local macro_rules | `(tactic| walk_at "none of these") => `(tactic| skip)
local macro_rules | `(tactic| walk_at "none of these") => `(tactic| skip)
local macro_rules | `(tactic| walk_at "none of these") => `(tactic| skip)
local macro_rules | `(tactic| walk_at "none of these") => `(tactic| skip)
local macro_rules | `(tactic| walk_at "none of these") => `(tactic| skip)
local macro_rules | `(tactic| walk_at "none of these") => `(tactic| skip)
local macro_rules | `(tactic| walk_at "none of these") => `(tactic| skip)
local macro_rules | `(tactic| walk_at "none of these") => `(tactic| skip)
local macro_rules | `(tactic| walk_at "none of these") => `(tactic| skip)
local macro_rules | `(tactic| walk_at "none of these") => `(tactic| skip)
local macro_rules | `(tactic| walk_at "none of these") => `(tactic| skip)
local macro_rules | `(tactic| walk_at "none of these") => `(tactic| skip)
local macro_rules | `(tactic| walk_at "none of these") => `(tactic| skip)
local macro_rules | `(tactic| walk_at "none of these") => `(tactic| skip)
local macro_rules | `(tactic| walk_at "none of these") => `(tactic| skip)
local macro_rules | `(tactic| walk_at "none of these") => `(tactic| skip)
local macro_rules | `(tactic| walk_at "none of these") => `(tactic| skip)
local macro_rules | `(tactic| walk_at "none of these") => `(tactic| skip)
local macro_rules | `(tactic| walk_at "none of these") => `(tactic| skip)
local macro_rules | `(tactic| walk_at "none of these") => `(tactic| skip)
local macro_rules | `(tactic| walk_at "none of these") => `(tactic| skip)
local macro_rules | `(tactic| walk_at "none of these") => `(tactic| skip)
local macro_rules | `(tactic| walk_at "none of these") => `(tactic| skip)
local macro_rules | `(tactic| walk_at "none of these") => `(tactic| skip)
local macro_rules | `(tactic| walk_at "none of these") => `(tactic| skip)
local macro_rules | `(tactic| walk_at "none of these") => `(tactic| skip)
local macro_rules | `(tactic| walk_at "none of these") => `(tactic| skip)
local macro_rules | `(tactic| walk_at "none of these") => `(tactic| skip)
local macro_rules | `(tactic| walk_at "none of these") => `(tactic| skip)
local macro_rules | `(tactic| walk_at "none of these") => `(tactic| skip)
local macro_rules | `(tactic| walk_at "none of these") => `(tactic| skip)

local macro_rules | `(tactic| walk_at "call ref") => `(tactic| (k_here; (with_reducible show wpAny _ _ (call (Value.ref 44) [Value.bytes _ _]) _ _ _); k_dflt (refine' use_tells (next_tells _ _ _ _ _ _ _ _ ?hk ?h0 ?h8) ?hh ?F ?N ?X ?T ?d ?u ?p ?_; (case hk => first | exact Pref.out (by with_reducible assumption) | assumption | exact rfl); (case h0 => (first | omega | (simp only [nxt_length, iter_length, List.length_cons, List.length_nil, List.length_map]; omega) | (simp only [nxt_length, iter_length, List.length_cons, List.length_nil, List.length_map] at *; omega))); (case h8 => (first | omega | (simp only [nxt_length, iter_length, List.length_cons, List.length_nil, List.length_map]; omega) | (simp only [nxt_length, iter_length, List.length_cons, List.length_nil, List.length_map] at *; omega))); (case hh => exact rfl); (case F => k_asm); (case N => k_asm); (case X => assumption); (case T => assumption); (case d => ktr_room); (case u => ktr_units); (case p => trivial)); intro r' h' k' F' N' hr'; obtain ⟨y', t', e9, e'⟩ := hr'; subst e9))
local macro_rules | `(tactic| walk_at "call ref") => `(tactic| (k_here; (with_reducible show wpAny _ _ (call (Value.ref 51) [Value.bytes _ _]) _ _ _); k_dflt (refine' use_tells (steps_tells _ _ _ _ _ _ _ _ ?hk ?h0 ?h8) ?hh ?F ?N ?X ?T ?d ?u ?p ?_; (case hk => first | exact Pref.out (by with_reducible assumption) | assumption | exact rfl); (case h0 => (first | omega | (simp only [nxt_length, iter_length, List.length_cons, List.length_nil, List.length_map]; omega) | (simp only [nxt_length, iter_length, List.length_cons, List.length_nil, List.length_map] at *; omega))); (case h8 => (first | omega | (simp only [nxt_length, iter_length, List.length_cons, List.length_nil, List.length_map]; omega) | (simp only [nxt_length, iter_length, List.length_cons, List.length_nil, List.length_map] at *; omega))); (case hh => exact rfl); (case F => k_asm); (case N => k_asm); (case X => assumption); (case T => assumption); (case d => ktr_room); (case u => ktr_units); (case p => trivial)); intro r' h' k' F' N' hr'; obtain ⟨t', e9⟩ := hr'; subst e9))
local macro_rules | `(tactic| walk_at "call builtin:max") => `(tactic| (k_here; (with_reducible show wpAny _ _ (call (Value.builtin _) [Value.bytes _ _]) _ _ _); k_dflt (refine' max_bytes ?F ?N ?hh ?hk ?h0 ?_; (case F => k_asm); (case N => k_asm); (case hh => exact rfl); (case hk => first | exact Pref.out (by with_reducible assumption) | assumption | exact rfl); (case h0 => (first | omega | (simp only [nxt_length, iter_length, List.length_cons, List.length_nil, List.length_map]; omega) | (simp only [nxt_length, iter_length, List.length_cons, List.length_nil, List.length_map] at *; omega)))); intro h' t' k' F' N'))
local macro_rules | `(tactic| walk_at "call type:list") => `(tactic| (k_here; (with_reducible show wpAny _ _ (call (Value.type "list") [Value.bytes _ _]) _ _ _); k_dflt (refine' list_bytes ?F ?N ?hh ?hk ?hz ?_; (case F => k_asm); (case N => k_asm); (case hh => exact rfl); (case hk => first | exact Pref.out (by with_reducible assumption) | assumption | kba_ints); (case hz => (first | omega | (simp only [nxt_length, iter_length, List.length_cons, List.length_nil, List.length_map]; omega) | (simp only [nxt_length, iter_length, List.length_cons, List.length_nil, List.length_map] at *; omega)))); intro D' vs' c' h' k' F' N' l1 i'; (try k_lt l1)))
local macro_rules | `(tactic| walk_at "call builtin:sorted") => `(tactic| (k_here; (with_reducible show wpAny _ _ (call (Value.builtin "sorted") [Value.bytes _ _]) _ _ _); k_dflt (refine' sorted_bytes ?F ?N ?hh ?hk ?hz ?_; (case F => k_asm); (case N => k_asm); (case hh => exact rfl); (case hk => first | kba_ints | exact rfl); (case hz => (first | omega | (simp only [nxt_length, iter_length, List.length_cons, List.length_nil, List.length_map]; omega) | (simp only [nxt_length, iter_length, List.length_cons, List.length_nil, List.length_map] at *; omega)))); intro D' vs' ns' c' h' k' F' N' l1 i' p' o'; (try k_lt l1)))
local macro_rules | `(tactic| walk_at "call type:bytes") => `(tactic| (k_here; (with_reducible show wpAny _ _ (call (Value.type "bytes") [Value.ref _]) _ _ _); k_dflt (refine' make_B ?F ?N ?h ?l ?i ?r ?n ?_; (case F => k_asm); (case N => k_asm); (case h => rfl); (case l => kba_isList); (case i => kba_listInts); (case r => first | (with_reducible assumption) | exact in_fmod2 _ | (intro n9 hn9; simp at hn9; omega)); (case n => first | (simp; done) | (first | omega | (simp only [nxt_length, iter_length, List.length_cons, List.length_nil, List.length_map]; omega) | (simp only [nxt_length, iter_length, List.length_cons, List.length_nil, List.length_map] at *; omega)))); intro h' b' t' k' F' N' e'; (try simp only [List.reverse_cons, List.reverse_nil, List.nil_append, List.cons_append, List.map_cons, List.map_nil] at e')))
set_option maxHeartbeats 2000000 in
theorem rest6_4 (w : World) (loose : List Str) (mean : ExcName → Option Value) (mg mb : Str → Option Value) :
    ∀ (st1 st2 st3 st4 st5 st6 : Stmt) (rest : List Stmt) (sc : Scope), lawB = st1 :: st2 :: st3 :: st4 :: st5 :: st6 :: rest → lawSc = sc →
    ∀ (fa : Addr) (cd : Value) (s₁ : Shared) (h : Heap) (tk : Nat) (m : Str → Option Value) (x : Array UInt8) (t u u' : Tok) (v0 v1 v2 v3 : Int), (Mine.hd.heap_39 w.params).In s₁.heap → Top Mine.hd.view_39 loose mean mg mb s₁.heap →
    KBw.bInts x = [v0, v1, v2, v3] → (∀ k ∈ [v0, v1, v2, v3], 0 ≤ k ∧ k < 32) →
    Fr s₁.heap s₁.heap.objs.size h (fun y => if y = Str.ofString "steps" then some (.int (stepsTo 90 [v0, v1, v2, v3] : Nat) u') else if y = Str.ofString "ring" then some (.bytes x t) else if y = Str.ofString "many" then some (.int 4 u) else m y) → News s₁.heap s₁.heap.objs.size h [] →
    wpP (model Challenge.rw_ic0001_02.row.toRowW.prog w) (callerA.deeper (envOfC (Str.ofString "law") sc s₁.heap.objs.size fa cd)) (execs (st6 :: rest) (envOfC (Str.ofString "law") sc s₁.heap.objs.size fa cd)) (fun fl s' => LawOk s₁ (retOf fl) s') (fun _ _ => False) { s₁ with heap := h, toks := tk } := by
  w_top off
  k_fill
  intro st1 st2 st3 st4 st5 st6 rest sc hb hs fa cd s₁ h tk m x t u u' v0 v1 v2 v3 X T hk h32 F N
  dsimp only [lawB, PySem.Challenge.pw_ic0001_02] at hb
  dsimp only [lawSc, PySem.Challenge.pw_ic0001_02] at hs
  cases hb
  cases hs
  have hv0 := h32 v0 (by simp)
  have hv1 := h32 v1 (by simp)
  have hv2 := h32 v2 (by simp)
  have hv3 := h32 v3 (by simp)
  have hr1 : Pref (KBw.bInts (KBy.picked x (some 1) none ++ KBy.picked x none (some 1)) = [v1, v2, v3, v0]) := (KBw.ints_app (KBc.ints_picked hk (some 1) none) (KBc.ints_picked hk none (some 1))).trans rfl
  have hp1 : Pref (KBw.bInts (KBy.picked x none (some 2)) = [v0, v1]) := (KBc.ints_picked hk none (some 2)).trans rfl
  have hp2 : Pref (KBw.bInts (KBy.picked x (some 2) none) = [v2, v3]) := (KBc.ints_picked hk (some 2) none).trans rfl
  have hrev : stepsTo 90 [v3, v2, v1, v0] = stepsTo 90 [v0, v1, v2, v3] := st_rev4 90 v0 v1 v2 v3
  have hrot : stepsTo 90 [v1, v2, v3, v0] = stepsTo 90 [v0, v1, v2, v3] := st_rot4 90 v0 v1 v2 v3
  refine execs_consP (Assign_TupleP (Tuple_P (Call_P ?_)))
  k_steps
  refine callWith_KP (K := Mine.hd.heap_39 w.params) (by k_is) ?_
  k_steps
  refine use_swap (swap_4_4 _ _ _ _ _ _ _ _ _ _ _ _ hk) rfl (by assumption) (by assumption) X T (by ktr_room) (by ktr_units) ?_
  intro y ty h2 k2 F2 N2 hy
  k_steps
  show wpP _ _ (execs _ _) _ _ _
  (with_reducible rename Fr _ _ _ _ => F3)
  simp only [show Int.fdiv 4 2 = 2 from rfl] at F3
  refine execs_anyP ?_
  k_steps
  · exact (no_bytes (by assumption) hy (by assumption)).elim
  · exfalso; simp_all
  · exfalso; simp_all
  show wpP _ _ (execs _ _) _ _ _
  refine execs_consP (Assign_NameP (Call_P ?_))
  k_steps
  refine callWith_KP (K := Mine.hd.heap_39 w.params) (by k_is) ?_
  k_steps
  refine use_swap (swap_4_2 _ _ _ _ _ _ _ _ _ _ _ _ hk) rfl (by assumption) (by assumption) X T (by ktr_room) (by ktr_units) ?_
  intro z tz h4 k4 F4 N4 hz
  have hz1 : Pref (KBw.bInts (KBy.picked z (some 2) none ++ KBy.picked z none (some 2)) = [v3, v2, v1, v0]) := (KBw.ints_app (KBc.ints_picked hz (some 2) none) (KBc.ints_picked hz none (some 2))).trans rfl
  k_steps
  show wpP _ _ (execs _ _) _ _ _
  refine execs_anyP ?_
  k_steps
  · exact (no_bytes (by assumption) hz (by assumption)).elim
  · exact (no_bytes (by assumption) hz1.out hy).elim
  show wpP _ _ (execs _ _) _ _ _
  refine wpP_any ?_
  (with_reducible rename Fr _ _ _ _ => F9)
  have F10 := frame1 (frame1 (frame1 F9 (a := Str.ofString "many") (u := .int 4 u) rfl) (a := Str.ofString "ring") (u := .bytes x t) rfl) (a := Str.ofString "steps") (u := .int (stepsTo 90 [v0, v1, v2, v3] : Nat) u') rfl
  exact rest10 w loose mean mg mb _ _ _ _ _ _ _ _ _ _ _ rfl rfl fa cd s₁ _ _ _ x t u u' [v0, v1, v2, v3] 4 X T hk h32 rfl (.inl rfl) F10 News.nil

end
section
local macro_rules | `(tactic| walk_at "none of these") => `(tactic| skip)
local macro_rules | `(tactic| walk_at "none of these") => `(tactic| skip)
local macro_rules | `(tactic| walk_at "none of these") => `(tactic| skip)
local macro_rules | `(tactic| walk_at "none of these") => `(tactic| skip)
local macro_rules | `(tactic| walk_at "none of these") => `(tactic| skip)
local macro_rules | `(tactic| walk_at "none of these") => `(tactic| skip)
local macro_rules | `(tactic| walk_at "none of these") => `(tactic| skip)
local macro_rules | `(tactic| walk_at "none of these") => `(tactic| skip)
local macro_rules | `(tactic| walk_at "none of these") => `(tactic| skip)
local macro_rules | `(tactic| walk_at "none of these") => `(tactic| skip)
local macro_rules | `(tactic| walk_at "none of these") => `(tactic| skip)
local macro_rules | `(tactic| walk_at "none of these") => `(tactic| skip)
local macro_rules | `(tactic| walk_at "none of these") => `(tactic| skip)
local macro_rules | `(tactic| walk_at "none of these") => `(tactic| skip)
local macro_rules | `(tactic| walk_at "none of these") => `(tactic| skip)
local macro_rules | `(tactic| walk_at "none of these") => `(tactic| skip)
local macro_rules | `(tactic| walk_at "none of these") => `(tactic| skip)
local macro_rules | `(tactic| walk_at "none of these") => `(tactic| skip)
local macro_rules | `(tactic| walk_at "none of these") => `(tactic| skip)
local macro_rules | `(tactic| walk_at "none of these") => `(tactic| skip)
local macro_rules | `(tactic| walk_at "none of these") => `(tactic| skip)
local macro_rules | `(tactic| walk_at "none of these") => `(tactic| skip)
local macro_rules | `(tactic| walk_at "none of these") => `(tactic| skip)
local macro_rules | `(tactic| walk_at "none of these") => `(tactic| skip)
local macro_rules | `(tactic| walk_at "none of these") => `(tactic| skip)
local macro_rules | `(tactic| walk_at "none of these") => `(tactic| skip)
local macro_rules | `(tactic| walk_at "none of these") => `(tactic| skip)
local macro_rules | `(tactic| walk_at "none of these") => `(tactic| skip)
local macro_rules | `(tactic| walk_at "none of these") => `(tactic| skip)
local macro_rules | `(tactic| walk_at "none of these") => `(tactic| skip)
local macro_rules | `(tactic| walk_at "none of these") => `(tactic| skip)
local macro_rules | `(tactic| walk_at "none of these") => `(tactic| skip)
local macro_rules | `(tactic| walk_at "none of these") => `(tactic| skip)
local macro_rules | `(tactic| walk_at "none of these") => `(tactic| skip)
local macro_rules | `(tactic| walk_at "none of these") => `(tactic| skip)
local macro_rules | `(tactic| walk_at "none of these") => `(tactic| skip)
local macro_rules | `(tactic| walk_at "none of these") => `(tactic| skip)
local macro_rules | `(tactic| walk_at "none of these") => `(tactic| skip)
local macro_rules | `(tactic| walk_at "none of these") => `(tactic| skip)
local macro_rules | `(tactic| walk_at "none of these") => `(tactic| skip)
local macro_rules | `(tactic| walk_at "none of these") => `(tactic| skip)
local macro_rules | `(tactic| walk_at "none of these") => `(tactic| skip)
local macro_rules | `(tactic| walk_at "none of these") => `(tactic| skip)
local macro_rules | `(tactic| walk_at "none of these") => `(tactic| skip)
local macro_rules | `(tactic| walk_at "none of these") => `(tactic| skip)
local macro_rules | `(tactic| walk_at "none of these") => `(tactic| skip)
local macro_rules | `(tactic| walk_at "none of these") => `(tactic| skip)
local macro_rules | `(tactic| walk_at "none of these") => `(tactic| skip)
local macro_rules | `(tactic| walk_at "none of these") => `(tactic| skip)
local macro_rules | `(tactic| walk_at "none of these") => `(tactic| skip)
local macro_rules | `(tactic| walk_at "none of these") => `(tactic| skip)
local macro_rules | `(tactic| walk_at "none of these") => `(tactic| skip)
local macro_rules | `(tactic| walk_at "none of these") => `(tactic| skip)

local macro_rules | `(tactic| walk_at "call ref") => `(tactic| (k_here; (with_reducible show wpAny _ _ (call (Value.ref 44) [Value.bytes _ _]) _ _ _); k_dflt (refine' use_tells (next_tells _ _ _ _ _ _ _ _ ?hk ?h0 ?h8) ?hh ?F ?N ?X ?T ?d ?u ?p ?_; (case hk => first | exact Pref.out (by with_reducible assumption) | assumption | exact rfl); (case h0 => (first | omega | (simp only [nxt_length, iter_length, List.length_cons, List.length_nil, List.length_map]; omega) | (simp only [nxt_length, iter_length, List.length_cons, List.length_nil, List.length_map] at *; omega))); (case h8 => (first | omega | (simp only [nxt_length, iter_length, List.length_cons, List.length_nil, List.length_map]; omega) | (simp only [nxt_length, iter_length, List.length_cons, List.length_nil, List.length_map] at *; omega))); (case hh => exact rfl); (case F => k_asm); (case N => k_asm); (case X => assumption); (case T => assumption); (case d => ktr_room); (case u => ktr_units); (case p => trivial)); intro r' h' k' F' N' hr'; obtain ⟨y', t', e9, e'⟩ := hr'; subst e9))
local macro_rules | `(tactic| walk_at "call ref") => `(tactic| (k_here; (with_reducible show wpAny _ _ (call (Value.ref 51) [Value.bytes _ _]) _ _ _); k_dflt (refine' use_tells (steps_tells _ _ _ _ _ _ _ _ ?hk ?h0 ?h8) ?hh ?F ?N ?X ?T ?d ?u ?p ?_; (case hk => first | exact Pref.out (by with_reducible assumption) | assumption | exact rfl); (case h0 => (first | omega | (simp only [nxt_length, iter_length, List.length_cons, List.length_nil, List.length_map]; omega) | (simp only [nxt_length, iter_length, List.length_cons, List.length_nil, List.length_map] at *; omega))); (case h8 => (first | omega | (simp only [nxt_length, iter_length, List.length_cons, List.length_nil, List.length_map]; omega) | (simp only [nxt_length, iter_length, List.length_cons, List.length_nil, List.length_map] at *; omega))); (case hh => exact rfl); (case F => k_asm); (case N => k_asm); (case X => assumption); (case T => assumption); (case d => ktr_room); (case u => ktr_units); (case p => trivial)); intro r' h' k' F' N' hr'; obtain ⟨t', e9⟩ := hr'; subst e9))
local macro_rules | `(tactic| walk_at "call builtin:max") => `(tactic| (k_here; (with_reducible show wpAny _ _ (call (Value.builtin _) [Value.bytes _ _]) _ _ _); k_dflt (refine' max_bytes ?F ?N ?hh ?hk ?h0 ?_; (case F => k_asm); (case N => k_asm); (case hh => exact rfl); (case hk => first | exact Pref.out (by with_reducible assumption) | assumption | exact rfl); (case h0 => (first | omega | (simp only [nxt_length, iter_length, List.length_cons, List.length_nil, List.length_map]; omega) | (simp only [nxt_length, iter_length, List.length_cons, List.length_nil, List.length_map] at *; omega)))); intro h' t' k' F' N'))
local macro_rules | `(tactic| walk_at "call type:list") => `(tactic| (k_here; (with_reducible show wpAny _ _ (call (Value.type "list") [Value.bytes _ _]) _ _ _); k_dflt (refine' list_bytes ?F ?N ?hh ?hk ?hz ?_; (case F => k_asm); (case N => k_asm); (case hh => exact rfl); (case hk => first | exact Pref.out (by with_reducible assumption) | assumption | kba_ints); (case hz => (first | omega | (simp only [nxt_length, iter_length, List.length_cons, List.length_nil, List.length_map]; omega) | (simp only [nxt_length, iter_length, List.length_cons, List.length_nil, List.length_map] at *; omega)))); intro D' vs' c' h' k' F' N' l1 i'; (try k_lt l1)))
local macro_rules | `(tactic| walk_at "call builtin:sorted") => `(tactic| (k_here; (with_reducible show wpAny _ _ (call (Value.builtin "sorted") [Value.bytes _ _]) _ _ _); k_dflt (refine' sorted_bytes ?F ?N ?hh ?hk ?hz ?_; (case F => k_asm); (case N => k_asm); (case hh => exact rfl); (case hk => first | kba_ints | exact rfl); (case hz => (first | omega | (simp only [nxt_length, iter_length, List.length_cons, List.length_nil, List.length_map]; omega) | (simp only [nxt_length, iter_length, List.length_cons, List.length_nil, List.length_map] at *; omega)))); intro D' vs' ns' c' h' k' F' N' l1 i' p' o'; (try k_lt l1)))
local macro_rules | `(tactic| walk_at "call type:bytes") => `(tactic| (k_here; (with_reducible show wpAny _ _ (call (Value.type "bytes") [Value.ref _]) _ _ _); k_dflt (refine' make_B ?F ?N ?h ?l ?i ?r ?n ?_; (case F => k_asm); (case N => k_asm); (case h => rfl); (case l => kba_isList); (case i => kba_listInts); (case r => first | (with_reducible assumption) | exact in_fmod2 _ | (intro n9 hn9; simp at hn9; omega)); (case n => first | (simp; done) | (first | omega | (simp only [nxt_length, iter_length, List.length_cons, List.length_nil, List.length_map]; omega) | (simp only [nxt_length, iter_length, List.length_cons, List.length_nil, List.length_map] at *; omega)))); intro h' b' t' k' F' N' e'; (try simp only [List.reverse_cons, List.reverse_nil, List.nil_append, List.cons_append, List.map_cons, List.map_nil] at e')))
set_option maxHeartbeats 2000000 in
theorem rest6_8 (w : World) (loose : List Str) (mean : ExcName → Option Value) (mg mb : Str → Option Value) :
    ∀ (st1 st2 st3 st4 st5 st6 : Stmt) (rest : List Stmt) (sc : Scope), lawB = st1 :: st2 :: st3 :: st4 :: st5 :: st6 :: rest → lawSc = sc →
    ∀ (fa : Addr) (cd : Value) (s₁ : Shared) (h : Heap) (tk : Nat) (m : Str → Option Value) (x : Array UInt8) (t u u' : Tok) (v0 v1 v2 v3 v4 v5 v6 v7 : Int), (Mine.hd.heap_39 w.params).In s₁.heap → Top Mine.hd.view_39 loose mean mg mb s₁.heap →
    KBw.bInts x = [v0, v1, v2, v3, v4, v5, v6, v7] → (∀ k ∈ [v0, v1, v2, v3, v4, v5, v6, v7], 0 ≤ k ∧ k < 32) →
    Fr s₁.heap s₁.heap.objs.size h (fun y => if y = Str.ofString "steps" then some (.int (stepsTo 90 [v0, v1, v2, v3, v4, v5, v6, v7] : Nat) u') else if y = Str.ofString "ring" then some (.bytes x t) else if y = Str.ofString "many" then some (.int 8 u) else m y) → News s₁.heap s₁.heap.objs.size h [] →
    wpP (model Challenge.rw_ic0001_02.row.toRowW.prog w) (callerA.deeper (envOfC (Str.ofString "law") sc s₁.heap.objs.size fa cd)) (execs (st6 :: rest) (envOfC (Str.ofString "law") sc s₁.heap.objs.size fa cd)) (fun fl s' => LawOk s₁ (retOf fl) s') (fun _ _ => False) { s₁ with heap := h, toks := tk } := by
  w_top off
  k_fill
  intro st1 st2 st3 st4 st5 st6 rest sc hb hs fa cd s₁ h tk m x t u u' v0 v1 v2 v3 v4 v5 v6 v7 X T hk h32 F N
  dsimp only [lawB, PySem.Challenge.pw_ic0001_02] at hb
  dsimp only [lawSc, PySem.Challenge.pw_ic0001_02] at hs
  cases hb
  cases hs
  have hv0 := h32 v0 (by simp)
  have hv1 := h32 v1 (by simp)
  have hv2 := h32 v2 (by simp)
  have hv3 := h32 v3 (by simp)
  have hv4 := h32 v4 (by simp)
  have hv5 := h32 v5 (by simp)
  have hv6 := h32 v6 (by simp)
  have hv7 := h32 v7 (by simp)
  have hr1 : Pref (KBw.bInts (KBy.picked x (some 1) none ++ KBy.picked x none (some 1)) = [v1, v2, v3, v4, v5, v6, v7, v0]) := (KBw.ints_app (KBc.ints_picked hk (some 1) none) (KBc.ints_picked hk none (some 1))).trans rfl
  have hp1 : Pref (KBw.bInts (KBy.picked x none (some 4)) = [v0, v1, v2, v3]) := (KBc.ints_picked hk none (some 4)).trans rfl
  have hp2 : Pref (KBw.bInts (KBy.picked x (some 4) none) = [v4, v5, v6, v7]) := (KBc.ints_picked hk (some 4) none).trans rfl
  have hrev : stepsTo 90 [v7, v6, v5, v4, v3, v2, v1, v0] = stepsTo 90 [v0, v1, v2, v3, v4, v5, v6, v7] := st_rev8 90 v0 v1 v2 v3 v4 v5 v6 v7
  have hrot : stepsTo 90 [v1, v2, v3, v4, v5, v6, v7, v0] = stepsTo 90 [v0, v1, v2, v3, v4, v5, v6, v7] := st_rot8 90 v0 v1 v2 v3 v4 v5 v6 v7
  refine execs_consP (Assign_TupleP (Tuple_P (Call_P ?_)))
  k_steps
  refine callWith_KP (K := Mine.hd.heap_39 w.params) (by k_is) ?_
  k_steps
  refine use_swap (swap_8_8 _ _ _ _ _ _ _ _ _ _ _ _ _ _ _ _ hk) rfl (by assumption) (by assumption) X T (by ktr_room) (by ktr_units) ?_
  intro y ty h2 k2 F2 N2 hy
  k_steps
  show wpP _ _ (execs _ _) _ _ _
  (with_reducible rename Fr _ _ _ _ => F3)
  simp only [show Int.fdiv 8 2 = 4 from rfl] at F3
  refine execs_anyP ?_
  k_steps
  · exact (no_bytes (by assumption) hy (by assumption)).elim
  · exfalso; simp_all
  · exfalso; simp_all
  show wpP _ _ (execs _ _) _ _ _
  refine execs_consP (Assign_NameP (Call_P ?_))
  k_steps
  refine callWith_KP (K := Mine.hd.heap_39 w.params) (by k_is) ?_
  k_steps
  refine use_swap (swap_8_4 _ _ _ _ _ _ _ _ _ _ _ _ _ _ _ _ hk) rfl (by assumption) (by assumption) X T (by ktr_room) (by ktr_units) ?_
  intro z tz h4 k4 F4 N4 hz
  have hz1 : Pref (KBw.bInts (KBy.picked z (some 4) none ++ KBy.picked z none (some 4)) = [v7, v6, v5, v4, v3, v2, v1, v0]) := (KBw.ints_app (KBc.ints_picked hz (some 4) none) (KBc.ints_picked hz none (some 4))).trans rfl
  k_steps
  show wpP _ _ (execs _ _) _ _ _
  refine execs_anyP ?_
  k_steps
  · exact (no_bytes (by assumption) hz (by assumption)).elim
  · exact (no_bytes (by assumption) hz1.out hy).elim
  show wpP _ _ (execs _ _) _ _ _
  refine wpP_any ?_
  (with_reducible rename Fr _ _ _ _ => F9)
  have F10 := frame1 (frame1 (frame1 F9 (a := Str.ofString "many") (u := .int 8 u) rfl) (a := Str.ofString "ring") (u := .bytes x t) rfl) (a := Str.ofString "steps") (u := .int (stepsTo 90 [v0, v1, v2, v3, v4, v5, v6, v7] : Nat) u') rfl
  exact rest10 w loose mean mg mb _ _ _ _ _ _ _ _ _ _ _ rfl rfl fa cd s₁ _ _ _ x t u u' [v0, v1, v2, v3, v4, v5, v6, v7] 8 X T hk h32 rfl (.inr rfl) F10 News.nil

end
section
local macro_rules | `(tactic| walk_at "none of these") => `(tactic| skip)
local macro_rules | `(tactic| walk_at "none of these") => `(tactic| skip)
local macro_rules | `(tactic| walk_at "none of these") => `(tactic| skip)
local macro_rules | `(tactic| walk_at "none of these") => `(tactic| skip)
local macro_rules | `(tactic| walk_at "none of these") => `(tactic| skip)
local macro_rules | `(tactic| walk_at "none of these") => `(tactic| skip)
local macro_rules | `(tactic| walk_at "none of these") => `(tactic| skip)
local macro_rules | `(tactic| walk_at "none of these") => `(tactic| skip)
local macro_rules | `(tactic| walk_at "none of these") => `(tactic| skip)
local macro_rules | `(tactic| walk_at "none of these") => `(tactic| skip)
local macro_rules | `(tactic| walk_at "none of these") => `(tactic| skip)
local macro_rules | `(tactic| walk_at "none of these") => `(tactic| skip)
local macro_rules | `(tactic| walk_at "none of these") => `(tactic| skip)
local macro_rules | `(tactic| walk_at "none of these") => `(tactic| skip)
local macro_rules | `(tactic| walk_at "none of these") => `(tactic| skip)
local macro_rules | `(tactic| walk_at "none of these") => `(tactic| skip)
local macro_rules | `(tactic| walk_at "none of these") => `(tactic| skip)
local macro_rules | `(tactic| walk_at "none of these") => `(tactic| skip)
local macro_rules | `(tactic| walk_at "none of these") => `(tactic| skip)
local macro_rules | `(tactic| walk_at "none of these") => `(tactic| skip)
local macro_rules | `(tactic| walk_at "none of these") => `(tactic| skip)
local macro_rules | `(tactic| walk_at "none of these") => `(tactic| skip)
local macro_rules | `(tactic| walk_at "none of these") => `(tactic| skip)
local macro_rules | `(tactic| walk_at "none of these") => `(tactic| skip)
local macro_rules | `(tactic| walk_at "none of these") => `(tactic| skip)
local macro_rules | `(tactic| walk_at "none of these") => `(tactic| skip)
local macro_rules | `(tactic| walk_at "none of these") => `(tactic| skip)
local macro_rules | `(tactic| walk_at "none of these") => `(tactic| skip)
local macro_rules | `(tactic| walk_at "none of these") => `(tactic| skip)
local macro_rules | `(tactic| walk_at "none of these") => `(tactic| skip)
local macro_rules | `(tactic| walk_at "none of these") => `(tactic| skip)
local macro_rules | `(tactic| walk_at "none of these") => `(tactic| skip)
local macro_rules | `(tactic| walk_at "none of these") => `(tactic| skip)
local macro_rules | `(tactic| walk_at "none of these") => `(tactic| skip)
local macro_rules | `(tactic| walk_at "none of these") => `(tactic| skip)
local macro_rules | `(tactic| walk_at "none of these") => `(tactic| skip)
local macro_rules | `(tactic| walk_at "none of these") => `(tactic| skip)
local macro_rules | `(tactic| walk_at "none of these") => `(tactic| skip)
local macro_rules | `(tactic| walk_at "none of these") => `(tactic| skip)
local macro_rules | `(tactic| walk_at "none of these") => `(tactic| skip)
local macro_rules | `(tactic| walk_at "none of these") => `(tactic| skip)
local macro_rules | `(tactic| walk_at "none of these") => `(tactic| skip)
local macro_rules | `(tactic| walk_at "none of these") => `(tactic| skip)
local macro_rules | `(tactic| walk_at "none of these") => `(tactic| skip)
local macro_rules | `(tactic| walk_at "none of these") => `(tactic| skip)
local macro_rules | `(tactic| walk_at "none of these") => `(tactic| skip)
local macro_rules | `(tactic| walk_at "none of these") => `(tactic| skip)
local macro_rules | `(tactic| walk_at "none of these") => `(tactic| skip)
local macro_rules | `(tactic| walk_at "none of these") => `(tactic| skip)
local macro_rules | `(tactic| walk_at "none of these") => `(tactic| skip)
local macro_rules | `(tactic| walk_at "none of these") => `(tactic| skip)
local macro_rules | `(tactic| walk_at "none of these") => `(tactic| skip)
local macro_rules | `(tactic| walk_at "none of these") => `(tactic| skip)
local macro_rules | `(tactic| walk_at "none of these") => `(tactic| skip)
local macro_rules | `(tactic| walk_at "none of these") => `(tactic| skip)
local macro_rules | `(tactic| walk_at "none of these") => `(tactic| skip)
local macro_rules | `(tactic| walk_at "none of these") => `(tactic| skip)
local macro_rules | `(tactic| walk_at "none of these") => `(tactic| skip)
local macro_rules | `(tactic| walk_at "none of these") => `(tactic| skip)
local macro_rules | `(tactic| walk_at "none of these") => `(tactic| skip)

local macro_rules | `(tactic| walk_at "call ref") => `(tactic| (k_here; (with_reducible show wpAny _ _ (call (Value.ref 44) [Value.bytes _ _]) _ _ _); k_dflt (refine' use_tells (next_tells _ _ _ _ _ _ _ _ ?hk ?h0 ?h8) ?hh ?F ?N ?X ?T ?d ?u ?p ?_; (case hk => first | exact Pref.out (by with_reducible assumption) | assumption | exact rfl); (case h0 => (first | omega | (simp only [nxt_length, iter_length, List.length_cons, List.length_nil, List.length_map]; omega) | (simp only [nxt_length, iter_length, List.length_cons, List.length_nil, List.length_map] at *; omega))); (case h8 => (first | omega | (simp only [nxt_length, iter_length, List.length_cons, List.length_nil, List.length_map]; omega) | (simp only [nxt_length, iter_length, List.length_cons, List.length_nil, List.length_map] at *; omega))); (case hh => exact rfl); (case F => k_asm); (case N => k_asm); (case X => assumption); (case T => assumption); (case d => ktr_room); (case u => ktr_units); (case p => trivial)); intro r' h' k' F' N' hr'; obtain ⟨y', t', e9, e'⟩ := hr'; subst e9))
local macro_rules | `(tactic| walk_at "call ref") => `(tactic| (k_here; (with_reducible show wpAny _ _ (call (Value.ref 51) [Value.bytes _ _]) _ _ _); k_dflt (refine' use_tells (steps_tells _ _ _ _ _ _ _ _ ?hk ?h0 ?h8) ?hh ?F ?N ?X ?T ?d ?u ?p ?_; (case hk => first | exact Pref.out (by with_reducible assumption) | assumption | exact rfl); (case h0 => (first | omega | (simp only [nxt_length, iter_length, List.length_cons, List.length_nil, List.length_map]; omega) | (simp only [nxt_length, iter_length, List.length_cons, List.length_nil, List.length_map] at *; omega))); (case h8 => (first | omega | (simp only [nxt_length, iter_length, List.length_cons, List.length_nil, List.length_map]; omega) | (simp only [nxt_length, iter_length, List.length_cons, List.length_nil, List.length_map] at *; omega))); (case hh => exact rfl); (case F => k_asm); (case N => k_asm); (case X => assumption); (case T => assumption); (case d => ktr_room); (case u => ktr_units); (case p => trivial)); intro r' h' k' F' N' hr'; obtain ⟨t', e9⟩ := hr'; subst e9))
local macro_rules | `(tactic| walk_at "call builtin:max") => `(tactic| (k_here; (with_reducible show wpAny _ _ (call (Value.builtin _) [Value.bytes _ _]) _ _ _); k_dflt (refine' max_bytes ?F ?N ?hh ?hk ?h0 ?_; (case F => k_asm); (case N => k_asm); (case hh => exact rfl); (case hk => first | exact Pref.out (by with_reducible assumption) | assumption | exact rfl); (case h0 => (first | omega | (simp only [nxt_length, iter_length, List.length_cons, List.length_nil, List.length_map]; omega) | (simp only [nxt_length, iter_length, List.length_cons, List.length_nil, List.length_map] at *; omega)))); intro h' t' k' F' N'))
local macro_rules | `(tactic| walk_at "call type:list") => `(tactic| (k_here; (with_reducible show wpAny _ _ (call (Value.type "list") [Value.bytes _ _]) _ _ _); k_dflt (refine' list_bytes ?F ?N ?hh ?hk ?hz ?_; (case F => k_asm); (case N => k_asm); (case hh => exact rfl); (case hk => first | exact Pref.out (by with_reducible assumption) | assumption | kba_ints); (case hz => (first | omega | (simp only [nxt_length, iter_length, List.length_cons, List.length_nil, List.length_map]; omega) | (simp only [nxt_length, iter_length, List.length_cons, List.length_nil, List.length_map] at *; omega)))); intro D' vs' c' h' k' F' N' l1 i'; (try k_lt l1)))
local macro_rules | `(tactic| walk_at "call builtin:sorted") => `(tactic| (k_here; (with_reducible show wpAny _ _ (call (Value.builtin "sorted") [Value.bytes _ _]) _ _ _); k_dflt (refine' sorted_bytes ?F ?N ?hh ?hk ?hz ?_; (case F => k_asm); (case N => k_asm); (case hh => exact rfl); (case hk => first | kba_ints | exact rfl); (case hz => (first | omega | (simp only [nxt_length, iter_length, List.length_cons, List.length_nil, List.length_map]; omega) | (simp only [nxt_length, iter_length, List.length_cons, List.length_nil, List.length_map] at *; omega)))); intro D' vs' ns' c' h' k' F' N' l1 i' p' o'; (try k_lt l1)))
local macro_rules | `(tactic| walk_at "call type:bytes") => `(tactic| (k_here; (with_reducible show wpAny _ _ (call (Value.type "bytes") [Value.ref _]) _ _ _); k_dflt (refine' make_B ?F ?N ?h ?l ?i ?r ?n ?_; (case F => k_asm); (case N => k_asm); (case h => rfl); (case l => kba_isList); (case i => kba_listInts); (case r => first | (with_reducible assumption) | exact in_fmod2 _ | (intro n9 hn9; simp at hn9; omega)); (case n => first | (simp; done) | (first | omega | (simp only [nxt_length, iter_length, List.length_cons, List.length_nil, List.length_map]; omega) | (simp only [nxt_length, iter_length, List.length_cons, List.length_nil, List.length_map] at *; omega)))); intro h' b' t' k' F' N' e'; (try simp only [List.reverse_cons, List.reverse_nil, List.nil_append, List.cons_append, List.map_cons, List.map_nil] at e')))
local macro_rules | `(tactic| walk_at "exec For Name Call") => `(tactic| refine Later.out ?_)
set_option maxHeartbeats 2000000 in
theorem rest3_4 (w : World) (loose : List Str) (mean : ExcName → Option Value) (mg mb : Str → Option Value) :
    ∀ (st1 st2 : Stmt) (rest : List Stmt) (sc : Scope), lawB = st1 :: st2 :: rest → lawSc = sc →
    ∀ (fa : Addr) (cd : Value) (s₁ : Shared) (h : Heap) (tk : Nat) (m : Str → Option Value) (x : Array UInt8) (t u : Tok) (v0 v1 v2 v3 : Int) (o1 o2 : Obj), (Mine.hd.heap_39 w.params).In s₁.heap → Top Mine.hd.view_39 loose mean mg mb s₁.heap →
    KBw.bInts x = [v0, v1, v2, v3] → (∀ k ∈ [v0, v1, v2, v3], 0 ≤ k ∧ k < 32) →
    Fr s₁.heap s₁.heap.objs.size h (fun y => if y = Str.ofString "ring" then some (.bytes x t) else if y = Str.ofString "many" then some (.int 4 u) else m y) → News s₁.heap s₁.heap.objs.size h [(s₁.heap.objs.size + 1 + 1, o1), (s₁.heap.objs.size + 1, o2)] →
    o1.data = .cell none → o2.data = .cell none →
    wpP (model Challenge.rw_ic0001_02.row.toRowW.prog w) (callerA.deeper (envOfC (Str.ofString "law") sc s₁.heap.objs.size fa cd)) (execs rest (envOfC (Str.ofString "law") sc s₁.heap.objs.size fa cd)) (fun fl s' => LawOk s₁ (retOf fl) s') (fun _ _ => False) { s₁ with heap := h, toks := tk } := by
  w_top off
  k_fill
  intro st1 st2 rest sc hb hs fa cd s₁ h tk m x t u v0 v1 v2 v3 o1 o2 X T hk h32 F N d1 d2
  dsimp only [lawB, PySem.Challenge.pw_ic0001_02] at hb
  dsimp only [lawSc, PySem.Challenge.pw_ic0001_02] at hs
  cases hb
  cases hs
  have hS : stepsTo 90 [v0, v1, v2, v3] ≤ 20 := steps_few (M := 4) (.inl rfl) [v0, v1, v2, v3] rfl h32
  refine execs_anyP ?_
  k_steps
  show wpP _ _ (execs _ _) _ _ _
  refine execs_anyP ?_
  k_steps
  · show wpP _ _ (execs _ _) _ _ _
    (with_reducible rename Fr _ _ _ _ => F9)
    (with_reducible rename News _ _ _ _ => N9)
    refine execs_anyP (loop5 w loose mean mg mb _ _ _ _ _ _ _ rfl rfl fa cd s₁ _ _ _ x t _ (stepsTo 90 [v0, v1, v2, v3]) [v0, v1, v2, v3] o1 _ _ _ X T hk (by simp) (by simp) (by omega) (frame1 F9 (a := Str.ofString "steps") rfl) (fun p hp => N9 p ((show ∀ q ∈ [_, _], q ∈ _ by kcf_all) p hp)) d1 (by assumption) ?cont)
    case cont =>
      intro m2 h2 tk2 o3 o4 F2 N2 hm2
      show wpP _ _ (execs _ _) _ _ _
      have F10 := frame1 (frame1 (frame1 F2 (a := Str.ofString "many") (u := .int 4 u) (hm2 _ (by decide) (by decide) (by decide))) (a := Str.ofString "ring") (u := .bytes x t) (hm2 _ (by decide) (by decide) (by decide))) (a := Str.ofString "steps") (u := .int (stepsTo 90 [v0, v1, v2, v3] : Nat) _) (hm2 _ (by decide) (by decide) (by decide))
      exact rest6_4 w loose mean mg mb _ _ _ _ _ _ _ _ rfl rfl fa cd s₁ _ _ _ x t u _ v0 v1 v2 v3 X T hk h32 F10 News.nil
  all_goals (exfalso; omega)

end
section
local macro_rules | `(tactic| walk_at "none of these") => `(tactic| skip)
local macro_rules | `(tactic| walk_at "none of these") => `(tactic| skip)
local macro_rules | `(tactic| walk_at "none of these") => `(tactic| skip)
local macro_rules | `(tactic| walk_at "none of these") => `(tactic| skip)
local macro_rules | `(tactic| walk_at "none of these") => `(tactic| skip)
local macro_rules | `(tactic| walk_at "none of these") => `(tactic| skip)
local macro_rules | `(tactic| walk_at "none of these") => `(tactic| skip)
local macro_rules | `(tactic| walk_at "none of these") => `(tactic| skip)
local macro_rules | `(tactic| walk_at "none of these") => `(tactic| skip)
local macro_rules | `(tactic| walk_at "none of these") => `(tactic| skip)
local macro_rules | `(tactic| walk_at "none of these") => `(tactic| skip)
local macro_rules | `(tactic| walk_at "none of these") => `(tactic| skip)
local macro_rules | `(tactic| walk_at "none of these") => `(tactic| skip)
local macro_rules | `(tactic| walk_at "none of these") => `(tactic| skip)
local macro_rules | `(tactic| walk_at "none of these") => `(tactic| skip)
local macro_rules | `(tactic| walk_at "none of these") => `(tactic| skip)
local macro_rules | `(tactic| walk_at "none of these") => `(tactic| skip)
local macro_rules | `(tactic| walk_at "none of these") => `(tactic| skip)
local macro_rules | `(tactic| walk_at "none of these") => `(tactic| skip)
local macro_rules | `(tactic| walk_at "none of these") => `(tactic| skip)
local macro_rules | `(tactic| walk_at "none of these") => `(tactic| skip)
local macro_rules | `(tactic| walk_at "none of these") => `(tactic| skip)
local macro_rules | `(tactic| walk_at "none of these") => `(tactic| skip)
local macro_rules | `(tactic| walk_at "none of these") => `(tactic| skip)
local macro_rules | `(tactic| walk_at "none of these") => `(tactic| skip)
local macro_rules | `(tactic| walk_at "none of these") => `(tactic| skip)
local macro_rules | `(tactic| walk_at "none of these") => `(tactic| skip)
local macro_rules | `(tactic| walk_at "none of these") => `(tactic| skip)
local macro_rules | `(tactic| walk_at "none of these") => `(tactic| skip)
local macro_rules | `(tactic| walk_at "none of these") => `(tactic| skip)
local macro_rules | `(tactic| walk_at "none of these") => `(tactic| skip)
local macro_rules | `(tactic| walk_at "none of these") => `(tactic| skip)
local macro_rules | `(tactic| walk_at "none of these") => `(tactic| skip)
local macro_rules | `(tactic| walk_at "none of these") => `(tactic| skip)
local macro_rules | `(tactic| walk_at "none of these") => `(tactic| skip)
local macro_rules | `(tactic| walk_at "none of these") => `(tactic| skip)
local macro_rules | `(tactic| walk_at "none of these") => `(tactic| skip)
local macro_rules | `(tactic| walk_at "none of these") => `(tactic| skip)
local macro_rules | `(tactic| walk_at "none of these") => `(tactic| skip)
local macro_rules | `(tactic| walk_at "none of these") => `(tactic| skip)
local macro_rules | `(tactic| walk_at "none of these") => `(tactic| skip)
local macro_rules | `(tactic| walk_at "none of these") => `(tactic| skip)
local macro_rules | `(tactic| walk_at "none of these") => `(tactic| skip)
local macro_rules | `(tactic| walk_at "none of these") => `(tactic| skip)
local macro_rules | `(tactic| walk_at "none of these") => `(tactic| skip)
local macro_rules | `(tactic| walk_at "none of these") => `(tactic| skip)
local macro_rules | `(tactic| walk_at "none of these") => `(tactic| skip)
local macro_rules | `(tactic| walk_at "none of these") => `(tactic| skip)
local macro_rules | `(tactic| walk_at "none of these") => `(tactic| skip)
local macro_rules | `(tactic| walk_at "none of these") => `(tactic| skip)
local macro_rules | `(tactic| walk_at "none of these") => `(tactic| skip)
local macro_rules | `(tactic| walk_at "none of these") => `(tactic| skip)
local macro_rules | `(tactic| walk_at "none of these") => `(tactic| skip)
local macro_rules | `(tactic| walk_at "none of these") => `(tactic| skip)
local macro_rules | `(tactic| walk_at "none of these") => `(tactic| skip)
local macro_rules | `(tactic| walk_at "none of these") => `(tactic| skip)
local macro_rules | `(tactic| walk_at "none of these") => `(tactic| skip)
local macro_rules | `(tactic| walk_at "none of these") => `(tactic| skip)
local macro_rules | `(tactic| walk_at "none of these") => `(tactic| skip)
local macro_rules | `(tactic| walk_at "none of these") => `(tactic| skip)
local macro_rules | `(tactic| walk_at "none of these") => `(tactic| skip)
local macro_rules | `(tactic| walk_at "none of these") => `(tactic| skip)
local macro_rules | `(tactic| walk_at "none of these") => `(tactic| skip)
local macro_rules | `(tactic| walk_at "none of these") => `(tactic| skip)
local macro_rules | `(tactic| walk_at "none of these") => `(tactic| skip)
local macro_rules | `(tactic| walk_at "none of these") => `(tactic| skip)
local macro_rules | `(tactic| walk_at "none of these") => `(tactic| skip)
local macro_rules | `(tactic| walk_at "none of these") => `(tactic| skip)

local macro_rules | `(tactic| walk_at "call ref") => `(tactic| (k_here; (with_reducible show wpAny _ _ (call (Value.ref 44) [Value.bytes _ _]) _ _ _); k_dflt (refine' use_tells (next_tells _ _ _ _ _ _ _ _ ?hk ?h0 ?h8) ?hh ?F ?N ?X ?T ?d ?u ?p ?_; (case hk => first | exact Pref.out (by with_reducible assumption) | assumption | exact rfl); (case h0 => (first | omega | (simp only [nxt_length, iter_length, List.length_cons, List.length_nil, List.length_map]; omega) | (simp only [nxt_length, iter_length, List.length_cons, List.length_nil, List.length_map] at *; omega))); (case h8 => (first | omega | (simp only [nxt_length, iter_length, List.length_cons, List.length_nil, List.length_map]; omega) | (simp only [nxt_length, iter_length, List.length_cons, List.length_nil, List.length_map] at *; omega))); (case hh => exact rfl); (case F => k_asm); (case N => k_asm); (case X => assumption); (case T => assumption); (case d => ktr_room); (case u => ktr_units); (case p => trivial)); intro r' h' k' F' N' hr'; obtain ⟨y', t', e9, e'⟩ := hr'; subst e9))
local macro_rules | `(tactic| walk_at "call ref") => `(tactic| (k_here; (with_reducible show wpAny _ _ (call (Value.ref 51) [Value.bytes _ _]) _ _ _); k_dflt (refine' use_tells (steps_tells _ _ _ _ _ _ _ _ ?hk ?h0 ?h8) ?hh ?F ?N ?X ?T ?d ?u ?p ?_; (case hk => first | exact Pref.out (by with_reducible assumption) | assumption | exact rfl); (case h0 => (first | omega | (simp only [nxt_length, iter_length, List.length_cons, List.length_nil, List.length_map]; omega) | (simp only [nxt_length, iter_length, List.length_cons, List.length_nil, List.length_map] at *; omega))); (case h8 => (first | omega | (simp only [nxt_length, iter_length, List.length_cons, List.length_nil, List.length_map]; omega) | (simp only [nxt_length, iter_length, List.length_cons, List.length_nil, List.length_map] at *; omega))); (case hh => exact rfl); (case F => k_asm); (case N => k_asm); (case X => assumption); (case T => assumption); (case d => ktr_room); (case u => ktr_units); (case p => trivial)); intro r' h' k' F' N' hr'; obtain ⟨t', e9⟩ := hr'; subst e9))
local macro_rules | `(tactic| walk_at "call builtin:max") => `(tactic| (k_here; (with_reducible show wpAny _ _ (call (Value.builtin _) [Value.bytes _ _]) _ _ _); k_dflt (refine' max_bytes ?F ?N ?hh ?hk ?h0 ?_; (case F => k_asm); (case N => k_asm); (case hh => exact rfl); (case hk => first | exact Pref.out (by with_reducible assumption) | assumption | exact rfl); (case h0 => (first | omega | (simp only [nxt_length, iter_length, List.length_cons, List.length_nil, List.length_map]; omega) | (simp only [nxt_length, iter_length, List.length_cons, List.length_nil, List.length_map] at *; omega)))); intro h' t' k' F' N'))
local macro_rules | `(tactic| walk_at "call type:list") => `(tactic| (k_here; (with_reducible show wpAny _ _ (call (Value.type "list") [Value.bytes _ _]) _ _ _); k_dflt (refine' list_bytes ?F ?N ?hh ?hk ?hz ?_; (case F => k_asm); (case N => k_asm); (case hh => exact rfl); (case hk => first | exact Pref.out (by with_reducible assumption) | assumption | kba_ints); (case hz => (first | omega | (simp only [nxt_length, iter_length, List.length_cons, List.length_nil, List.length_map]; omega) | (simp only [nxt_length, iter_length, List.length_cons, List.length_nil, List.length_map] at *; omega)))); intro D' vs' c' h' k' F' N' l1 i'; (try k_lt l1)))
local macro_rules | `(tactic| walk_at "call builtin:sorted") => `(tactic| (k_here; (with_reducible show wpAny _ _ (call (Value.builtin "sorted") [Value.bytes _ _]) _ _ _); k_dflt (refine' sorted_bytes ?F ?N ?hh ?hk ?hz ?_; (case F => k_asm); (case N => k_asm); (case hh => exact rfl); (case hk => first | kba_ints | exact rfl); (case hz => (first | omega | (simp only [nxt_length, iter_length, List.length_cons, List.length_nil, List.length_map]; omega) | (simp only [nxt_length, iter_length, List.length_cons, List.length_nil, List.length_map] at *; omega)))); intro D' vs' ns' c' h' k' F' N' l1 i' p' o'; (try k_lt l1)))
local macro_rules | `(tactic| walk_at "call type:bytes") => `(tactic| (k_here; (with_reducible show wpAny _ _ (call (Value.type "bytes") [Value.ref _]) _ _ _); k_dflt (refine' make_B ?F ?N ?h ?l ?i ?r ?n ?_; (case F => k_asm); (case N => k_asm); (case h => rfl); (case l => kba_isList); (case i => kba_listInts); (case r => first | (with_reducible assumption) | exact in_fmod2 _ | (intro n9 hn9; simp at hn9; omega)); (case n => first | (simp; done) | (first | omega | (simp only [nxt_length, iter_length, List.length_cons, List.length_nil, List.length_map]; omega) | (simp only [nxt_length, iter_length, List.length_cons, List.length_nil, List.length_map] at *; omega)))); intro h' b' t' k' F' N' e'; (try simp only [List.reverse_cons, List.reverse_nil, List.nil_append, List.cons_append, List.map_cons, List.map_nil] at e')))
local macro_rules | `(tactic| walk_at "exec For Name Call") => `(tactic| refine Later.out ?_)
set_option maxHeartbeats 2000000 in
theorem rest3_8 (w : World) (loose : List Str) (mean : ExcName → Option Value) (mg mb : Str → Option Value) :
    ∀ (st1 st2 : Stmt) (rest : List Stmt) (sc : Scope), lawB = st1 :: st2 :: rest → lawSc = sc →
    ∀ (fa : Addr) (cd : Value) (s₁ : Shared) (h : Heap) (tk : Nat) (m : Str → Option Value) (x : Array UInt8) (t u : Tok) (v0 v1 v2 v3 v4 v5 v6 v7 : Int) (o1 o2 : Obj), (Mine.hd.heap_39 w.params).In s₁.heap → Top Mine.hd.view_39 loose mean mg mb s₁.heap →
    KBw.bInts x = [v0, v1, v2, v3, v4, v5, v6, v7] → (∀ k ∈ [v0, v1, v2, v3, v4, v5, v6, v7], 0 ≤ k ∧ k < 32) →
    Fr s₁.heap s₁.heap.objs.size h (fun y => if y = Str.ofString "ring" then some (.bytes x t) else if y = Str.ofString "many" then some (.int 8 u) else m y) → News s₁.heap s₁.heap.objs.size h [(s₁.heap.objs.size + 1 + 1, o1), (s₁.heap.objs.size + 1, o2)] →
    o1.data = .cell none → o2.data = .cell none →
    wpP (model Challenge.rw_ic0001_02.row.toRowW.prog w) (callerA.deeper (envOfC (Str.ofString "law") sc s₁.heap.objs.size fa cd)) (execs rest (envOfC (Str.ofString "law") sc s₁.heap.objs.size fa cd)) (fun fl s' => LawOk s₁ (retOf fl) s') (fun _ _ => False) { s₁ with heap := h, toks := tk } := by
  w_top off
  k_fill
  intro st1 st2 rest sc hb hs fa cd s₁ h tk m x t u v0 v1 v2 v3 v4 v5 v6 v7 o1 o2 X T hk h32 F N d1 d2
  dsimp only [lawB, PySem.Challenge.pw_ic0001_02] at hb
  dsimp only [lawSc, PySem.Challenge.pw_ic0001_02] at hs
  cases hb
  cases hs
  have hS : stepsTo 90 [v0, v1, v2, v3, v4, v5, v6, v7] ≤ 40 := steps_few (M := 8) (.inr rfl) [v0, v1, v2, v3, v4, v5, v6, v7] rfl h32
  refine execs_anyP ?_
  k_steps
  show wpP _ _ (execs _ _) _ _ _
  refine execs_anyP ?_
  k_steps
  · show wpP _ _ (execs _ _) _ _ _
    (with_reducible rename Fr _ _ _ _ => F9)
    (with_reducible rename News _ _ _ _ => N9)
    refine execs_anyP (loop5 w loose mean mg mb _ _ _ _ _ _ _ rfl rfl fa cd s₁ _ _ _ x t _ (stepsTo 90 [v0, v1, v2, v3, v4, v5, v6, v7]) [v0, v1, v2, v3, v4, v5, v6, v7] o1 _ _ _ X T hk (by simp) (by simp) (by omega) (frame1 F9 (a := Str.ofString "steps") rfl) (fun p hp => N9 p ((show ∀ q ∈ [_, _], q ∈ _ by kcf_all) p hp)) d1 (by assumption) ?cont)
    case cont =>
      intro m2 h2 tk2 o3 o4 F2 N2 hm2
      show wpP _ _ (execs _ _) _ _ _
      have F10 := frame1 (frame1 (frame1 F2 (a := Str.ofString "many") (u := .int 8 u) (hm2 _ (by decide) (by decide) (by decide))) (a := Str.ofString "ring") (u := .bytes x t) (hm2 _ (by decide) (by decide) (by decide))) (a := Str.ofString "steps") (u := .int (stepsTo 90 [v0, v1, v2, v3, v4, v5, v6, v7] : Nat) _) (hm2 _ (by decide) (by decide) (by decide))
      exact rest6_8 w loose mean mg mb _ _ _ _ _ _ _ _ rfl rfl fa cd s₁ _ _ _ x t u _ v0 v1 v2 v3 v4 v5 v6 v7 X T hk h32 F10 News.nil
  all_goals (exfalso; omega)

end

theorem list4 {l : List Int} (h : l.length = 4) : ∃ a b c d, l = [a, b, c, d] := by
  match l, h with
  | [a, b, c, d], _ => exact ⟨a, b, c, d, rfl⟩
theorem list8 {l : List Int} (h : l.length = 8) : ∃ a b c d a' b' c' d', l = [a, b, c, d, a', b', c', d'] := by
  match l, h with
  | [a, b, c, d, a', b', c', d'], _ => exact ⟨a, b, c, d, a', b', c', d', rfl⟩
theorem fmod32 (l : List Int) : ∀ k ∈ l.map (fun k => k.fmod 32), 0 ≤ k ∧ k < 32 := by
  intro q hq
  obtain ⟨k, _, rfl⟩ := List.mem_map.mp hq
  rw [Int.fmod_eq_emod_of_nonneg _ (by decide)]
  omega
theorem in32 {l : List Int} (h : ∀ k ∈ l, 0 ≤ k ∧ k < 32) : KBa.In l := fun k hk => by have := h k hk; omega

set_option maxHeartbeats 8000000 in
theorem law2 : PySem.Challenge.rw_ic0001_02.Holds := by
  refine Mine.hd ?_
  w_top off
  k_fill
  intro w s₀ s₁ mg mb G Y fa o pm cd doc dV kV ho hd hcd hD hmg hg args vals as hpre hlay hrd hwl hlo
  have KX := kIn_of Y
  refine Ground.open G ?_
  intro T B D TE TW
  clear B D TE TW
  wrow_args hpre hlay hrd hwl hlo
  refine wpP_mono (Q := LawOk s₁) (E := fun _ _ => False) ?_ (fun v s' g => ?_) (fun _ _ x => x.elim)
  · obtain rfl : dV = .none := hD.none rfl
    obtain rfl : kV = .none := hD.noKw
    unfold docDef at hd
    dsimp only at hd hcd
    have hdd : o.data = .func (fnOf _ _ _ _ _ .none .none doc pm none cd .none) := hd
    (with_reducible rename Heap.IsList _ _ _ => hl); (with_reducible rename IntsAre _ _ => hI); (rename (¬ (63 : Int) < _) => h63)
    rename_i ns _ _ _ _ _ _ _ l vs _ _ _ _ _ _
    replace h63 : ns.length ≤ 63 := by omega
    refine enterCP T.nolimit ho hdd hcd (by decide) (BindsTo.of_eq rfl) rfl (by decide +kernel) rfl rfl rfl ?_
    intro h' tk' cells' F' N' Y'
    k_cells Y'
    (try dsimp only)
    clear hdd hd hD hmg ho hcd G Y hg
    refine execs_anyP ?_
    k_steps
    · show wpP _ _ (execs _ _) _ _ _
      refine execs_anyP ?_
      k_steps
      show wpP _ _ (execs _ _) _ _ _
      have hlen : (List.map (fun k' => Int.fmod k' 32) (List.take 4 (ns ++ (List.replicate 8 [0]).flatten))).length = 4 := by
        rw [show (List.replicate 8 [(0 : Int)]).flatten = [0, 0, 0, 0, 0, 0, 0, 0] from rfl, List.length_map, List.length_take, List.length_append]
        simp only [List.length_cons, List.length_nil]
        omega
      have h32 := fmod32 (List.take 4 (ns ++ (List.replicate 8 [0]).flatten))
      have hb := KBa.ints_make (in32 h32)
      obtain ⟨a, b, c, d, e⟩ := list4 hlen
      rw [e] at h32
      replace hb := hb.trans e
      (with_reducible rename Fr _ _ _ _ => F9)
      (with_reducible rename News _ _ _ _ => N9)
      exact rest3_4 w _ _ mg mb _ _ _ _ rfl rfl fa cd s₁ _ _ _ _ _ _ a b c d _ _ KX T hb h32 F9 (fun p hp => N9 p ((show ∀ q ∈ [(_, _), (_, _)], q ∈ _ by kcf_all) p hp)) (by assumption) (by assumption)
    · show wpP _ _ (execs _ _) _ _ _
      refine execs_anyP ?_
      k_steps
      show wpP _ _ (execs _ _) _ _ _
      have hlen : (List.map (fun k' => Int.fmod k' 32) (List.take 8 (ns ++ (List.replicate 8 [0]).flatten))).length = 8 := by
        rw [show (List.replicate 8 [(0 : Int)]).flatten = [0, 0, 0, 0, 0, 0, 0, 0] from rfl, List.length_map, List.length_take, List.length_append]
        simp only [List.length_cons, List.length_nil]
        omega
      have h32 := fmod32 (List.take 8 (ns ++ (List.replicate 8 [0]).flatten))
      have hb := KBa.ints_make (in32 h32)
      obtain ⟨v0, v1, v2, v3, v4, v5, v6, v7, e⟩ := list8 hlen
      rw [e] at h32
      replace hb := hb.trans e
      (with_reducible rename Fr _ _ _ _ => F9)
      (with_reducible rename News _ _ _ _ => N9)
      exact rest3_8 w _ _ mg mb _ _ _ _ rfl rfl fa cd s₁ _ _ _ _ _ _ v0 v1 v2 v3 v4 v5 v6 v7 _ _ KX T hb h32 F9 (fun p hp => N9 p ((show ∀ q ∈ [(_, _), (_, _)], q ∈ _ by kcf_all) p hp)) (by assumption) (by assumption)
  · obtain ⟨rfl, keep, hg', ho'⟩ := g
    exact ⟨.inl ⟨_, _, [], rfl, fun cls => rfl, .bool true, by wrow_post, fun _ => ⟨List.nodup_nil, fun a ha => nomatch ha⟩⟩, .of_keep keep, ho', .of_eq (hg'.trans hg)⟩

end Mine

theorem PySem.Challenge.cw_ic0001_02_holds : PySem.Challenge.rw_ic0001_02.Holds :=
  Mine.law2
