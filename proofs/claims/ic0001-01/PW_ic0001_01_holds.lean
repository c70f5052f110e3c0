import PyProof.Rows.All
import Wide.All
import OpenK.AllK
import Wide.FinOn
import PySem.Challenge.RW_ic0001_01
open PySem PySem.W PyProof.Rows PySem.Calls
set_option Elab.async false
set_option maxRecDepth 100000
set_option linter.unusedVariables false
set_option linter.unusedSimpArgs false
set_option linter.deprecated false
namespace Mine

local macro_rules | `(tactic| walk_at "exec While Compare") => `(tactic| k_extra "exec While Compare")
local macro_rules | `(tactic| walk_at "call ref") => `(tactic| k_extra "call ref")
local macro_rules | `(tactic| walk_at "call builtin:list.insert") => `(tactic| k_extra "call builtin:list.insert")
local macro_rules | `(tactic| walk_at "binaryOp BitXor int int") => `(tactic| k_extra "binaryOp BitXor int int")
local macro_rules | `(tactic| walk_at "pyIter ref") => `(tactic| k_extra "pyIter ref")
local macro_rules | `(tactic| walk_at "exec For Name Call cons nil") => `(tactic| k_extra "exec For Name Call cons nil")
local macro_rules | `(tactic| walk_at "setItem ref int") => `(tactic| k_extra "setItem ref int")
local macro_rules | `(tactic| walk_at "call type:bytes") => `(tactic| k_extra "call type:bytes")
local macro_rules | `(tactic| walk_at "exec If") => `(tactic| k_extra "exec If")
local macro_rules | `(tactic| walk_at "exec While BoolOp") => `(tactic| k_extra "exec While BoolOp")
local macro_rules | `(tactic| walk_at "call builtin:list.append") => `(tactic| k_extra "call builtin:list.append")
local macro_rules | `(tactic| walk_at "exec For Name Name cons nil") => `(tactic| k_extra "exec For Name Name cons nil")
local macro_rules | `(tactic| walk_at "call builtin:list.extend") => `(tactic| k_extra "call builtin:list.extend")
local macro_rules | `(tactic| walk_at "eval ListComp") => `(tactic| k_extra "eval ListComp")
local macro_rules | `(tactic| walk_at "CompSrcT") => `(tactic| k_extra "CompSrcT")
local macro_rules | `(tactic| walk_at "CompEnd") => `(tactic| k_extra "CompEnd")
local macro_rules | `(tactic| walk_at "call builtin:len") => `(tactic| k_extra "call builtin:len")
local macro_rules | `(tactic| walk_at "call type:list") => `(tactic| k_extra "call type:list")
local macro_rules | `(tactic| walk_at "CompSrc") => `(tactic| k_extra "CompSrc")
local macro_rules | `(tactic| walk_at "call builtin:list.index") => `(tactic| k_extra "call builtin:list.index")
local macro_rules | `(tactic| walk_at "eval Name") => `(tactic| k_extra "eval Name")
local macro_rules | `(tactic| walk_at "exec Assign cons ListComp") => `(tactic| k_extra "exec Assign cons ListComp")
local macro_rules | `(tactic| walk_at "CompSrcR") => `(tactic| k_extra "CompSrcR")
local macro_rules | `(tactic| walk_at "execs cons Assign cons") => `(tactic| k_extra "execs cons Assign cons")
local macro_rules | `(tactic| walk_at "execs cons If") => `(tactic| k_extra "execs cons If")
local macro_rules | `(tactic| walk_at "execs cons If cons") => `(tactic| k_extra "execs cons If cons")
local macro_rules | `(tactic| walk_at "execs cons") => `(tactic| k_extra "execs cons")
local macro_rules | `(tactic| walk_at "execs nil") => `(tactic| k_extra "execs nil")
local macro_rules | `(tactic| walk_at "subscriptTail Name Constant ref int") => `(tactic| k_extra "subscriptTail Name Constant ref int")
local macro_rules | `(tactic| walk_at "subscriptTail Name Slice ref ref") => `(tactic| k_extra "subscriptTail Name Slice ref ref")
local macro_rules | `(tactic| walk_at "call builtin:sorted") => `(tactic| k_extra "call builtin:sorted")
local macro_rules | `(tactic| walk_at "call builtin:list.pop") => `(tactic| k_extra "call builtin:list.pop")
local macro_rules | `(tactic| walk_at "exec For Name Subscript cons nil") => `(tactic| k_extra "exec For Name Subscript cons nil")

section
variable {prog : Program} {w : World} {A : Around} {E : Value → Shared → Prop} {s : Shared} {h₀ : Heap} {L : Addr} {m : PySem.Str → Option Value} {news : List (Addr × Obj)} {b : Array UInt8} {t : Tok} {ks : List Int}

theorem ints_of_at : ∀ {vs : List Value} {ns : List Int}, vs.length = ns.length → (∀ j v, vs[j]? = some v → ∃ t, v = Value.int (ns.getD j 0) t) → IntsAre vs ns
  | [], [], _, _ => .nil
  | [], _ :: _, h, _ => nomatch h
  | _ :: _, [], h, _ => nomatch h
  | v :: vs, n :: ns, hl, h => by
    obtain ⟨t, rfl⟩ := h 0 v rfl
    exact .cons n t (ints_of_at (Nat.succ.inj hl) fun j v hv => h (j + 1) v hv)

end
namespace FB
theorem split_len : splitId "bytes.__len__" = some ("bytes", "__len__") := by decide +kernel
end FB
section
variable {prog : Program} {w : World} {A : Around} {E : Value → Shared → Prop} {s : Shared}

theorem extend_bytes {R : Result → Shared → Prop} {S : Addr} {c : Nat} {b : Array UInt8} {t : Tok} {res : Value} (hh : A.handled = none) (hz : b.size ≤ sizeLine) (hS : s.heap.get? S = some { cls := .type "list", data := .seq #[] c })
    (h : ∀ s' vs c', s'.gens = s.gens → s'.drawn = s.drawn → s'.os = s.os → (∀ a o, a ≠ S → s.heap.get? a = some o → s'.heap.get? a = some o) → s'.heap.get? S = some { cls := .type "list", data := .seq vs c' } →
      IntsAre vs.toList (KBw.bInts b) → R (.ok (.ret res)) s') :
    wpAny (model prog w) A.in1 (Builtin.List.listExtendWith (.ref S) (.bytes b t) res)
      (fun fin s' => match fin with | .done f => R (.ok f) s' | .again c' => c'.quiet = true ∧ codeAny (model prog w) A c' R s') (fun e s' => R (.error e) s') s := by
  unfold Builtin.List.listExtendWith
  refine wpAny_bind (wpAny_typeOf (typeIs_bytes _ b t) ?_)
  have h1 : Builtin.List.listSameRef (.ref S) (.bytes b t) = false := rfl
  have h2 : (Value.type "bytes" == Value.type "list") = false := by decide
  have h3 : (Value.type "bytes" == Value.type "tuple") = false := by decide
  simp only [h1, h2, h3, Bool.or_false, Bool.false_eq_true, if_false]
  refine wpAny_bind (KBw.pyIter_bytes ?_)
  refine wpAny_bind (wpAny_holding ?_)
  unfold Builtin.List.listLengthHint
  refine wpAny_bind (wpAny_specialOf (typeIs_bytes _ b t) FB.slot_bytes_len.lookup ?_)
  dsimp only
  rw [FB.split_len]
  dsimp only
  refine wpAny_bind (wpAny_isInstance (typeIs_bytes _ b t) F.sub_bytes_bytes ?_)
  refine bm_if_false rfl ?_
  refine bm_if_true (by decide +kernel) ?_
  refine wpAny_pure ?_
  refine bm_if_false (by decide +kernel) ?_
  have W := (KBw.walks (prog := prog) (w := w) (A := A.in1) hh s.heap.objs.size b t).toS
  have hlt : S < s.heap.objs.size := Heap.lt_size hS
  refine wpAny_pure ⟨plainId_quiet F.plain_extend_loop _, codeAny_extend_loopS W hz S (fun hm => absurd (List.mem_singleton.mp hm) (Nat.ne_of_lt hlt)) res b.size 0 _ _ _ rfl (Nat.zero_le _)
    ⟨_, Heap.get?_push_size _ rfl, rfl, rfl⟩ (Heap.get?_push_of_some _ hS) (ItemsOf.nil _) fun s' acc' c' hm hS' hacc => ?_⟩
  refine h s' acc' c' hm.gens hm.drawn hm.os (fun a o ha e => hm.heap a o (fun hq => ?_) (Heap.get?_push_of_some _ e)) hS' ?_
  · rcases List.mem_cons.mp hq with e1 | e1
    · exact ha e1
    · rw [List.mem_singleton.mp e1] at e
      exact absurd (Heap.lt_size e) (Nat.lt_irrefl _)
  · refine ints_of_at (by rw [Array.length_toList, hacc.1, KBw.ints_length]) fun j v hv => ?_
    obtain ⟨c, u, hc, rfl⟩ := hacc.2 j v (by rw [← Array.getElem?_toList]; exact hv)
    refine ⟨u, ?_⟩
    rw [List.getD_eq_getElem?_getD, KBw.ints_get hc]; rfl
end

section
variable {prog : Program} {w : World} {A : Around} {E : Value → Shared → Prop} {s : Shared} {h₀ : Heap} {L : Addr} {m : PySem.Str → Option Value} {news : List (Addr × Obj)} {b : Array UInt8} {t : Tok} {ks : List Int}

theorem shared_eq {s s' : Shared} (h1 : s'.gens = s.gens) (h2 : s'.drawn = s.drawn) (h3 : s'.os = s.os) : s' = { s with heap := s'.heap, toks := s'.toks } := by
  cases s; cases s'; simp_all

theorem list_bytes {Q : Value → Shared → Prop} (hF : Fr h₀ L s.heap m) (hN : News h₀ L s.heap news) (hh : A.handled = none) (hk : KBw.bInts b = ks) (hz : ks.length ≤ 16777216)
    (h : ∀ D vs c h' k, Fr h₀ L h' m → News h₀ L h' ((D, PySem.W.listOf vs c) :: news) → (∀ q ∈ news, q.1 < D) → IntsAre vs.toList ks → Q (.ref D) { s with heap := h', toks := k }) :
    wpAny (model prog w) A (call (.type "list") [.bytes b t]) Q E s := by
  have hz' : b.size ≤ sizeLine := by rw [sizeLine_eq, ← KBw.ints_length, hk]; exact hz
  refine callType_codes (Q₁ := fun obj s₁ => obj = .ref s.heap.objs.size ∧ s₁ = { s with heap := s.heap.push { cls := .type "list", data := .seq #[] } }) F.called_list (F.typeCall_list_1 _) PySem.F.entry_list_init
    (code_list_new _ ⟨rfl, rfl⟩) fun obj s₁ h₁ => ?_
  obtain ⟨rfl, rfl⟩ := h₁
  have hS : (s.heap.push { cls := .type "list", data := .seq #[] }).get? s.heap.objs.size = some { cls := .type "list", data := .seq #[] } := Heap.get?_push_size _ rfl
  refine ⟨⟨_, hS, rfl⟩, PySem.F.args_list_init_2 _ _, ?_⟩
  show wpAny _ A.in1.in1 (do let old ← Builtin.List.listItems (.ref s.heap.objs.size); Builtin.List.listUpdate (.ref s.heap.objs.size) (fun _ => #[]); letGo old.toList.reverse; Builtin.List.listExtendWith (.ref s.heap.objs.size) (.bytes b t) .none) _ _ _
  refine wpAny_bind ?_
  unfold Builtin.List.listItems
  refine wpAny_bind (wpAny_seqItems hS rfl (wpAny_pure ?_))
  refine wpAny_bind (wpAny_updateSeq hS rfl ?_)
  have hS₂ := Heap.get?_update_self (Obj.mapSeq (fun _ => (#[] : Array Value))) hS rfl
  have oth : ∀ b o, b ≠ s.heap.objs.size → (s.heap.push { cls := .type "list", data := .seq #[] }).get? b = some o → ((s.heap.push { cls := .type "list", data := .seq #[] }).update s.heap.objs.size (Obj.mapSeq (fun _ => (#[] : Array Value)))).get? b = some o :=
    fun b o hb e => (Heap.get?_update_other _ _ (Ne.symm hb)).trans e
  refine wpAny_bind (wpAny_letGo ?_)
  refine extend_bytes (A := A.in1) hh hz' hS₂ fun s' vs c' e1 e2 e3 hk' hS' hI => ⟨rfl, ?_⟩
  have keep : ∀ a o, s.heap.get? a = some o → s'.heap.get? a = some o := fun a o e => hk' a o (Nat.ne_of_lt (Heap.lt_size e)) (oth a o (Nat.ne_of_lt (Heap.lt_size e)) (Heap.get?_push_of_some _ e))
  rw [shared_eq (s := s) (s' := s') e1 e2 e3]
  exact h _ vs c' s'.heap s'.toks (hF.kept keep) (News.kept_cons hF hN keep (Nat.le_refl _) hS') (fun p hp => Heap.lt_size (hN p hp).1) (hk ▸ hI)

end

theorem bInts_in {x : Array UInt8} {ks : List Int} (h : KBw.bInts x = ks) : KBa.In ks := by
  subst h; intro n hn; exact KBw.ints_in hn

section
open PySem.Sem (wp)

/-- the codes that a bytearray's __init__ looks for on the stack -/
def lends : Code → Bool
  | .builtin id _ => Builtin.Bytes.decodersThatHold.contains id || ["bytearray.__contains__", "bytearray.__mod__", "bytearray.__rmod__", "_struct.pack_into.held", "bytearray.find.held"].contains id
  | _ => false
def CleanL (l : List (Code × Pos)) : Prop := ∀ x ∈ l, lends x.1 = false
def Clean (Γ : Ctx) : Prop := lends Γ.code = false ∧ CleanL Γ.below

def wpP {α : Type} (M : Model) (A : Around) (t : Sem α) (Q : α → Shared → Prop) (E : Value → Shared → Prop) (s : Shared) : Prop :=
  ∀ Γ p, Γ.In A → Clean Γ → wp M Γ t (fun a _ s' => Q a s') (fun e _ s' => E e s') p s
def codeP (M : Model) (A : Around) (c : Code) (R : Result → Shared → Prop) (s : Shared) : Prop :=
  ∀ Γ p, Γ.code = c → Γ.Below A → CleanL Γ.below → wpCode M Γ R p s

section
variable {α β : Type} {M : Model} {A : Around} {E : Value → Shared → Prop} {s : Shared}

theorem wpP_any {t : Sem α} {Q : α → Shared → Prop} (h : wpAny M A t Q E s) : wpP M A t Q E s := fun Γ p hΓ _ => h Γ p hΓ
theorem wpP_pure {a : α} {Q : α → Shared → Prop} (h : Q a s) : wpP M A (pure a) Q E s := fun _ _ _ _ => h
theorem wpP_mono {t : Sem α} {Q Q' : α → Shared → Prop} {E' : Value → Shared → Prop} (h : wpP M A t Q E s)
    (hQ : ∀ a s, Q a s → Q' a s) (hE : ∀ e s, E e s → E' e s) : wpP M A t Q' E' s :=
  fun Γ p hΓ hc => Sem.wp_mono M Γ t (fun a _ s => hQ a s) (fun e _ s => hE e s) p s (h Γ p hΓ hc)
theorem wpP_bind {m : Sem α} {f : α → Sem β} {Q : β → Shared → Prop} (h : wpP M A m (fun a s' => wpP M A (f a) Q E s') E s) :
    wpP M A (m >>= f) Q E s := fun Γ p hΓ hc => by
  rw [Sem.wp_bind']
  exact Sem.wp_mono M Γ m (fun a p' s' h' => h' Γ p' hΓ hc) (fun _ _ _ h' => h') p s (h Γ p hΓ hc)
theorem wpP_then {m : Sem α} {f : α → Sem β} {Q : β → Shared → Prop} (h : wpAny M A m (fun a s' => wpP M A (f a) Q E s') E s) :
    wpP M A (m >>= f) Q E s := wpP_bind (wpP_any h)
theorem wpP_holding {vs : List Value} {m : Sem α} {Q : α → Shared → Prop} (h : wpP M A m Q E s) : wpP M A (holding vs m) Q E s :=
  fun Γ p hΓ hc => by rw [Sem.wp_holding]; exact h Γ p hΓ hc
theorem wpP_onRaise {m : Sem α} {k : Value → Sem Unit} {Q : α → Shared → Prop}
    (h : wpP M A m Q (fun e s' => wpAny M A (k e) (fun _ s'' => E e s'') E s') s) : wpP M A (m.onRaise k) Q E s := fun Γ p hΓ hc => by
  rw [Sem.wp_onRaise]
  exact Sem.wp_mono M Γ m (fun _ _ _ h' => h') (fun e p' s' h' => h' Γ p' hΓ) p s (h Γ p hΓ hc)
theorem clean_below {Γ : Ctx} (h : Clean Γ) (c : Code) (hd : Option Value) (p : Pos) : CleanL (Γ.enter c hd p).below := by
  intro x hx
  rcases List.mem_cons.mp hx with rfl | hx
  · exact h.1
  · exact h.2 x hx

theorem wpP_runValue {c : Code} {Q : Value → Shared → Prop}
    (hc : codeP M A c (fun r s' => match r with | .ok (.ret v) => Q v s' | .ok _ => False | .error e => E e s') s) :
    wpP M A (runValue c) Q E s := fun Γ p hΓ hl => by rw [Sem.wp_runValue]; exact hc _ p rfl (hΓ.enter c none p (by intro x; cases x)) (clean_below hl c none p)
theorem wpP_call {f : Value} {pos : List Value} {kw : List (Str × Value)} {Q : Value → Shared → Prop}
    (hc : codeP M A (.call f ⟨pos, kw⟩) (fun r s' => match r with | .ok (.ret v) => Q v s' | .ok _ => False | .error e => E e s') s) :
    wpP M A (call f pos kw) Q E s := wpP_runValue hc
theorem codeP_of_tree {c : Code} {R : Result → Shared → Prop} (hl : lends c = false)
    (h : wpP M (A.under c) (M.den c) (fun fin s' => match fin with | .done f => R (.ok f) s' | .again c' => c'.quiet = true ∧ codeP M A c' R s')
      (fun e s' => R (.error e) s') s) : codeP M A c R s := fun Γ p hc hΓ hb => by
  rw [wpCode_iff_wp, hc]
  refine Sem.wp_mono M Γ _ (fun fin p' s' h' => ?_) (fun _ _ _ h' => h') p s (h Γ p (hc ▸ hΓ.in) ⟨hc ▸ hl, hb⟩)
  cases fin with
  | done f => exact h'
  | again c' => exact ⟨h'.1, h'.2 (Γ.goto c') p' rfl (hΓ.goto c') hb⟩

/-- the stack bears none that lends self out -/
theorem wpP_exported {self : Value} {Q : Bool → Shared → Prop} (h : Q false s) : wpP M A (Builtin.Bytes.exported self) Q E s := fun Γ p _ hc => by
  have all : ∀ x ∈ ((Γ.code, p) :: Γ.below : List (Code × Pos)), lends x.1 = false := by
    intro x hx
    rcases List.mem_cons.mp hx with rfl | hx
    · exact hc.1
    · exact hc.2 x hx
  show Q (List.any ((Γ.code, p) :: Γ.below) _) s
  rw [List.any_eq_false.mpr ?_]
  · exact h
  rintro ⟨c, q⟩ hx
  have hx := all _ hx
  cases c with
  | builtin id args =>
    obtain ⟨vs, kw⟩ := args
    simp only [lends, Bool.or_eq_false_iff] at hx
    obtain ⟨hd, hn⟩ := hx
    have n1 : id ≠ "bytearray.__contains__" := fun e => by subst e; exact absurd hn (by decide)
    have n2 : id ≠ "bytearray.__mod__" := fun e => by subst e; exact absurd hn (by decide)
    have n3 : id ≠ "bytearray.__rmod__" := fun e => by subst e; exact absurd hn (by decide)
    have n4 : id ≠ "_struct.pack_into.held" := fun e => by subst e; exact absurd hn (by decide)
    have n5 : id ≠ "bytearray.find.held" := fun e => by subst e; exact absurd hn (by decide)
    delta PySem.Builtin.Bytes.exported.match_1
    change ¬ ((dite (id = "bytearray.__contains__") _ _) = true)
    rw [dif_neg n1, dif_neg n2, dif_neg n3, dif_neg n4, dif_neg n5]
    cases vs with
    | nil => exact Bool.false_ne_true
    | cons v r =>
      change ¬ ((Builtin.Bytes.sameRef v self && Builtin.Bytes.decodersThatHold.contains id) = true)
      rw [hd, Bool.and_false]
      exact Bool.false_ne_true
  | _ => exact Bool.false_ne_true
end

end
section
open PySem.Sem (wp)

theorem threadP {prog : Program} {w : World} {t : Sem Fin} {s : Shared} {R : Result → Shared → Prop} (hreg : s.asleep)
    (h : wpP (model prog w) callerA t (fun fin s' => ∃ f, fin = .done f ∧ (R (.ok f) s' ∧ leftWithCleanup s'.gens = false)) (fun e s' => R (.error e) s' ∧ leftWithCleanup s'.gens = false) s) :
    ∃ n r s' s'', runN (denote table) prog w n s ⟨t, .builtin "claim.caller" {}, default, []⟩ = .halted (outcomeOf r) s' ∧
      schedN (denote table) prog w n (.single s ⟨t, .builtin "claim.caller" {}, default, []⟩) = .halted (outcomeOf r) s' ∧ s'.forget = s''.forget ∧ R r s'' := by
  have hw := h ⟨.builtin "claim.caller" {}, none, none, [], none⟩ default caller_in ⟨by decide +kernel, fun x hx => nomatch hx⟩
  obtain ⟨n, r, s₁, s₂, hs, hn, hfo, hR⟩ := wp_halts_full (M := model prog w) (R := R) hreg
    (Sem.wp_mono _ _ _ (fun fin _ _ x => by obtain ⟨f, rfl, hf⟩ := x; exact hf) (fun _ _ _ x => x) _ _ hw)
  exact ⟨n, r, s₂, s₁, hn, hs, hfo, hR⟩

abbrev WalkP (q : Program) (loose : List Str) (XP : (Str → Option Value) → Heap → Prop) (YP : World → Heap → Prop) (r : RowW) (d : DefRec) (kwd : List (Str × Expr)) (run : Value → List Value → Sem Value) : Prop :=
  ∀ (w : World) (s₀ s₁ : Shared) (mg mb : Str → Option Value), Ground q loose r.records XP w s₀ mg mb s₁.heap → YP w s₁.heap → ∀ (a : Addr) (o : Obj) (pm cd doc dV kV : Value), s₁.heap.get? a = some o →
    o.data = .func { docDef d.name d.params d.body d.scope pm cd doc with defaults := dV, kwdefaults := kV } → s₁.heap.CodeRec cd d.name → Dflts mg s₁.heap d.params kwd dV kV → mg d.name = some (.ref a) → s₁.gens = #[] →
    ∀ (args : List WData) (vals : List Value) (as : List Addr), r.claim.pre args = true → WData.layableAll args = true → ReadsAllW r.records (classAt s₀.heap) s₁.heap vals args as → WellAll w.params s₁.heap vals args → (∀ a ∈ as, (a == sysModules) = false) →
      wpP (model r.prog w) callerA (run (.ref a) vals) (fun v s' => GoodWG r.claim (classAt s₀.heap) (ExcName.means s₀.heap) args s₁ (.ok (.ret v)) s')
        (fun e s' => GoodWG r.claim (classAt s₀.heap) (ExcName.means s₀.heap) args s₁ (.error e) s') s₁

theorem pinned_name {b : Bool} {n m : Str} (h : n ∈ (if b = true then [m] else [])) : n = m := by
  cases b
  · exact absurd h (by simp)
  · exact List.mem_singleton.mp h

theorem PySem.W.holds_open {r : OpenRow} {q : Program} {loose : List Str} {Xt : Shared → Bool} {XP : (Str → Option Value) → Heap → Prop} {α : Type} {Yf : Shared → α} {Ya : World → α} {YP : World → Heap → Prop} {d : DefRec} {kwd : List (Str × Expr)} {N : Nat}
    (left : LeftO r.prog q loose Xt Yf Ya N) (hY : ∀ w s, Yf s = Ya w → YP w s.heap) (hYk : ∀ w h h', YP w h → (∀ b o, h.get? b = some o → h'.get? b = some o) → YP w h')
    (hX : ∀ s, Xt s = true → XP (s.heap.nsMap mainGlobals) s.heap) (hXk : ∀ mg h h', XP mg h → (∀ b o, h.get? b = some o → h'.get? b = some o) → XP mg h')
    (hdef : defOf q r.name = some (d, kwd)) (hp : r.prog.theDef r.name = some (d.params, d.body, d.scope)) (hk : kwWritten? d.params.kwonlyargs d.params.kw_defaults = some kwd) (hRf : ∀ s, Xt s = true → RecFacts r.records s.heap) (hwr : (!r.writes || r.records.isEmpty) = true)
    (k1 : r.wellSaid = true) (ok : (chainsOk q && opensWell r.prog && (frees r.toRowW && r.within.isEmpty)) = true) (hb : r.prog.bare) (hw : r.toRowW.promised)
    (call : WalkP q loose XP YP r.toRowW d kwd fun f vs => PySem.call f vs) : r.Holds := by
  refine ⟨k1, hw, ?_⟩
  obtain ⟨ok, k5⟩ := Bool.and_eq_true_iff.mp ok
  obtain ⟨hch, o1⟩ := Bool.and_eq_true_iff.mp ok
  obtain ⟨k5, k6⟩ := Bool.and_eq_true_iff.mp k5
  obtain ⟨hsame, hu, ha, hap, hm⟩ := frees_parts k5
  refine ⟨⟨hb, o1, by show r.makers.map _ = []; rw [hm]; rfl⟩, hw.witness, fun w => ⟨(left.behind hX hch w).1, fun s' hs' => ?_⟩⟩
  refine (fun (H : ∀ G : Prop, (_ → G) → G) => H _ id) fun G done => ?_
  obtain ⟨s₀, hf, hg0, s, hT, hz, hgens, hg, G00, y⟩ := (left.behind (XP := fun mg h => XP mg h ∧ RecFacts r.records h) (fun s hs => ⟨hX s hs, hRf s hs⟩) hch w).2 s' hs'
  have G0 : Ground q loose [] XP w s (s.heap.nsMap mainGlobals) (s.heap.nsMap builtinsNs) s.heap := ⟨G00.T, G00.B, G00.D, G00.TE, G00.TD, G00.W, G00.X.1, G00.cls, G00.has, G00.apart, G00.once, G00.K⟩
  have RF := G00.X.2
  have hT' := hT
  refine done ⟨s₀, hf, hg0, s, hT, fun n hn => ?_, RF.1, RF.2.1, ?_⟩
  · obtain rfl : n = r.name := pinned_name hn
    exact pinned_of_view hg G0 hdef hp hk
  have hgens : s.gens = #[] := Array.eq_empty_of_size_eq_zero (beq_iff_eq.mp hgens)
  have G : Ground q loose r.records XP w s _ _ s.heap := RF.ground G0
  intro args hpre hlay ord hord
  refine (fun (H : ∀ G : Prop, (_ → G) → G) => H _ id) fun G2 done2 => ?_
  obtain ⟨⟨vs, s₁⟩, hlaid⟩ := Option.isSome_iff_exists.mp (layAllW_isSome (P := w.params) (ord := ord) G.has args r.args s (pre_splitW hpre).1)
  have keeps := layAllW_keeps _ _ _ hlaid
  have hal := layAllW_rest _ _ _ hlaid
  obtain ⟨as, hrd, hin, hold⟩ := reads_layAllW hord _ _ _ hlaid hlay s₁.heap (fun _ _ e => e)
  have L : Laid r.records w s s₁ args vs as := ⟨⟨ord, hord, hlaid⟩, hrd, hin, hold, keeps, hal.1.trans hgens, hal.2.2.1⟩
  have G₁ := G.keeps hXk keeps
  obtain ⟨a, o, pm, cd, doc, dV, kV, h1, h2, h3, h4, h5⟩ := G₁.fn hdef
  have h := call w s s₁ _ _ G₁ (hYk _ _ _ (hY w s y) keeps) a o pm cd doc dV kV h2 h3 h4 h5 (defOf_name hdef ▸ h1) L.gens args vs as hpre hlay L.reads L.well (L.low G.low)
  have hi := ident_freeW hu ha hap
  have hwi : r.claim.within = [] := List.isEmpty_iff.mp k6
  have fin : ∀ res s', GoodWG r.claim (classAt s.heap) (ExcName.means s.heap) args s₁ res s' → r.claim.Ends s args vs s₁ res s' ∧ s'.os = s.os ∧ AllBare s'.gens ∧
      (r.writes = true → namesKept r.prog r.keeps s.heap s'.heap ∧ ∀ x ∈ r.records, ∀ a, classAt s.heap x.1 = some a → recordClass s'.heap a x.1 (x.2.map (·.1)) = true) := fun res s' g =>
    have z := g.laid (c := r.claim) hsame hwi hi L
    ⟨z.1, z.2.1, z.2.2, fun q => ⟨namesKept_of hT' hg r.keeps keeps g.2.1.old, noTable hwr q⟩⟩
  obtain ⟨k, res, s2, s3, hrun, hsched, hfo, hR⟩ := threadP (prog := r.prog) (w := w) (s := s₁)
    (t := do match ← nsGet mainNs r.name with
      | some f => do ret (← PySem.call f vs)
      | none => unsupported "claim.caller:no-such-global")
    (R := fun res s' => r.claim.Ends s args vs s₁ res s' ∧ s'.os = s.os ∧
      (r.writes = true → namesKept r.prog r.keeps s.heap s'.heap ∧ ∀ x ∈ r.records, ∀ a, classAt s.heap x.1 = some a → recordClass s'.heap a x.1 (x.2.map (·.1)) = true))
    (Shared.asleep_of_life hal.2.2.2 hz) (by
      refine wpP_then (wpAny_nsGet G₁.T.g ?_)
      rw [h1]
      refine wpP_bind (wpP_mono h (fun v s' g => ?_) (fun e s' g => ?_))
      · have z := fin _ _ g
        exact wpP_pure ⟨_, rfl, ⟨z.1, z.2.1, z.2.2.2⟩, leftWithCleanup_false_of_bare z.2.2.1⟩
      · have z := fin _ _ g
        exact ⟨⟨z.1, z.2.1, z.2.2.2⟩, leftWithCleanup_false_of_bare z.2.2.1⟩)
  obtain ⟨hcase, hos, hkp⟩ := hR
  obtain ⟨eh, _, _, eo, _⟩ := Shared.forget_eq hfo
  have hcase := hcase.congr eh
  rw [← eo] at hos
  rw [← eh] at hkp
  have hlife : s2.heap.life = s.heap.life := (runN_life _ _ _ hrun).trans hal.2.2.2
  refine done2 ⟨vs, s₁, hlaid, k, _, s2, hsched, ?_, (fun _ i x hx => by rw [hgens] at hx; simp at hx), hkp, by rw [hlife], Shared.rest_eq hos⟩
  rcases hcase with ⟨v, rfl, d1, d2, d3, d4, d5⟩ | ⟨e, ob, cls, rfl, d1, d2, d3, d4, d5⟩
  · exact .inl ⟨v, rfl, d1, d2, d3, fun b o y _ => d4 b o y, d5⟩
  · exact .inr ⟨e, ob, cls, rfl, d1, d2, d3, d4, fun b o y _ => d5 b o y⟩

end
set_option maxRecDepth 100000 in
set_option maxHeartbeats 8000000 in
open_top hd for PySem.Challenge.rw_ic0001_01

abbrev Ext (h h' : Heap) : Prop := ∀ b o, h.get? b = some o → h'.get? b = some o
abbrev around (dp un : Nat) (fr : Option (List Env)) (gd : Option (List Code)) : Around := { handled := none, depth := dp, frames := fr, guards := gd, units := un }

/-- a call that leaves all that stood as it stood -/
def Tells (prog : Program) (w : World) (K : Frag) (p : Program) (loose : List Str) (mean : ExcName → Option Value) (mg mb : Str → Option Value) (f : Addr) (d u : Nat) (vs : List Value) (pre : Heap → Prop) (R : Heap → Value → Prop) : Prop :=
  ∀ (dp un : Nat) (fr : Option (List Env)) (gd : Option (List Code)) (s : Shared) (Q E : Value → Shared → Prop),
    K.In s.heap → Top p loose mean mg mb s.heap → dp + d < recursionLimit → un + u < cLine → pre s.heap →
    (∀ r h' tk', Ext s.heap h' → R h' r → Q r { s with heap := h', toks := tk' }) →
    wpAny (model prog w) (around dp un fr gd) (call (.ref f) vs) Q E s

section
variable {prog : Program} {w : World} {A : Around} {s : Shared} {K : Frag} {E : Value → Shared → Prop} {Q : Value → Shared → Prop}
  {p : Program} {loose : List Str} {mean : ExcName → Option Value} {mg mb : Str → Option Value}
  {name qual : Str} {params : Arguments} {body : List Stmt} {scope : Scope} {dV kV doc pm cdv ct oc : Value} {an od : Option Addr} {osl : Array (Option Value)} {f : Addr} {vs : List Value} {kw : List (Str × Value)} {binds : List (Str × Value)}

def retOf : Flow → Value
  | .ret v => v
  | _ => .none

theorem enter (X : K.In s.heap) (T : Top p loose mean mg mb s.heap)
    (ho : K.lookup f = some ⟨oc, od, .func (fnOf name qual params body scope dV kV doc pm an cdv ct), osl⟩) (hcd : codeIn K cdv qual = true) (hroom : A.depth < recursionLimit)
    (hbind : BindsTo s (fnOf name qual params body scope dV kV doc pm an cdv ct) ⟨vs, kw⟩ binds) (hloc : ∀ y ∈ binds, scope.names.lookup y.1 = some .local)
    (hco : scope.isCoroutine = false) (hgen : scope.isGenerator = false) (hk : scope.kind = .function)
    (hcell : ∀ x ∈ scope.names, x.2 ≠ .cell)
    (h : ∀ h₁, Fr s.heap s.heap.objs.size h₁ (fun y => binds.reverse.lookup y) → News s.heap s.heap.objs.size h₁ [] →
      wpAny (model prog w) (A.deeper (envOf qual scope s.heap.objs.size f cdv)) (execs body (envOf qual scope s.heap.objs.size f cdv))
        (fun fl s' => Q (retOf fl) s') (fun _ _ => False) { s with heap := h₁, toks := s.toks + binds.length }) :
    wpAny (model prog w) A (call (.ref f) vs kw) Q E s := by
  refine wpAny_call (codeAny_call_def (fd := fnX name qual params body scope [] dV kV doc pm an cdv ct) (body := body) (binds := binds) hroom (X _ _ ho) rfl T.nolimit (codeRec_of X hcd) rfl hbind hcell hloc (fun h₁ hns hk₁ => ?_) hco hgen hk)
  exact wpAny_mono (h h₁ ⟨hns, hk₁, Nat.le_refl _⟩ News.nil) (fun fl s' hl => by cases fl <;> exact hl) (fun _ _ x => x.elim)

theorem enterC (X : K.In s.heap) (T : Top p loose mean mg mb s.heap)
    (ho : K.lookup f = some ⟨oc, od, .func (fnOf name qual params body scope dV kV doc pm an cdv ct), osl⟩) (hcd : codeIn K cdv qual = true) (hroom : A.depth < recursionLimit)
    (hbind : BindsTo s (fnOf name qual params body scope dV kV doc pm an cdv ct) ⟨vs, kw⟩ binds)
    (hkind : (binds.all fun y => scope.names.lookup y.1 == some .local || scope.names.lookup y.1 == some .cell) = true)
    (hnd : ((cellsFrom 0 scope.names []).map (·.1)).Nodup)
    (hco : scope.isCoroutine = false) (hgen : scope.isGenerator = false) (hk : scope.kind = .function)
    (h : ∀ h₁ tk cells, Fr s.heap s.heap.objs.size h₁ (bindL (envOfC qual scope s.heap.objs.size f cdv).kindOf binds fun _ => none) → News s.heap s.heap.objs.size h₁ cells →
      CellsAre (bindC (envOfC qual scope s.heap.objs.size f cdv).kindOf binds fun _ => none) (cellsFrom (s.heap.objs.size + 1) scope.names []) cells →
      wpAny (model prog w) (A.deeper (envOfC qual scope s.heap.objs.size f cdv)) (execs body (envOfC qual scope s.heap.objs.size f cdv))
        (fun fl s' => Q (retOf fl) s') (fun _ _ => False) { s with heap := h₁, toks := tk }) :
    wpAny (model prog w) A (call (.ref f) vs kw) Q E s := by
  refine wpAny_call (codeAny_call_function hroom (X _ _ ho) rfl hco hgen rfl (codeRec_of X hcd) (hbind _ _ _ _ ?_))
  refine wpAny_newFunctionEnv_cells hk (kindsX hkind _) fun env' he s' x => ?_
  subst he
  refine ⟨T.nolimit.keeps x.toInCall.keep, codeAny_func ?_⟩
  obtain ⟨h₁, tk, rfl, _⟩ := x.done
  obtain ⟨cells, NC, Y⟩ := Cl.news (h₀ := s.heap) (Nat.le_refl _) fun n c hm => ⟨x.cell n c (lookup_of_mem_nodup (cellsFrom_names scope.names 0 (s.heap.objs.size + 1) [] [] rfl ▸ hnd) hm), x.above n c hm⟩
  exact wpAny_mono (h h₁ tk cells ⟨x.toInCall.ns, x.toInCall.keep, Nat.le_refl _⟩ NC Y) (fun fl s' hl => by cases fl <;> exact hl) (fun _ _ x => x.elim)
end

namespace FA
theorem mro : mroOf (.type "bytearray") = pure [.type "bytearray", .type "object"] := by rw [mroOf_type]; kernel_rfl
theorem lookup_new : typeLookup (.type "bytearray") "__new__" = pure (some (.builtin "bytearray.__new__")) := by rw [typeLookup_type, builtinLookup_eq_fast]; kernel_rfl
theorem slot_init : Slot "bytearray" "__init__" "bytearray.__init__" :=
  .of (owner := "bytearray") (n := "__init__") (by rw [typeLookup_type, builtinLookup_eq_fast]; kernel_rfl) (by decide +kernel) (by decide +kernel) (by decide +kernel)
    (by first | exact .inl (by decide +kernel) | exact .inr (by decide +kernel)) (by rw [isSubtype_type]; kernel_rfl)
theorem called : TypeCalled "bytearray" "bytearray.__new__" "bytearray.__init__" :=
  ⟨by decide +kernel, by decide +kernel, ⟨_, _, mro⟩, madeBy_type mro lookup_new (by decide +kernel), by decide +kernel, by rw [isSubtype_type]; kernel_rfl, slot_init⟩
theorem typeCall (a : Value) : checkTypeCall "bytearray" ⟨[a], []⟩ = pure () := by kernel_rfl
theorem newCall (a : Value) : checkBuiltinCall "bytearray.__new__" ⟨[.type "bytearray", a], []⟩ = pure () := by kernel_rfl
theorem entry_new : entryFor table "bytearray.__new__" = some Builtin.«list.__new__» := entryFor_alias (id' := "list.__new__") (by kernel_rfl) (by decide +kernel) (by decide +kernel) (by kernel_rfl)
theorem plain_new : plainId "bytearray.__new__" = true := by decide +kernel
theorem entry_init : entryFor table "bytearray.__init__" = some Builtin.«bytearray.__init__» := by first | exact entryFor_of_fast (by kernel_rfl) | exact entryFor_of_tree (by kernel_rfl)
theorem plain_init : plainId "bytearray.__init__" = true := by decide +kernel
theorem args_init (a b : Value) : argsOk "bytearray.__init__" ⟨[a, b], []⟩ := by unfold argsOk; kernel_rfl
theorem sub_self : isSubtype (.type "bytearray") (.type "bytearray") = pure true := by rw [isSubtype_type]; kernel_rfl
theorem look_release : typeLookup (.type "bytearray") "__release_buffer__" = pure (some (.builtin "bytearray.__release_buffer__")) := by rw [typeLookup_type, builtinLookup_eq_fast]; kernel_rfl
theorem look_buffer : typeLookup (.type "bytearray") "__buffer__" = pure (some (.builtin "bytearray.__buffer__")) := by rw [typeLookup_type, builtinLookup_eq_fast]; kernel_rfl
theorem no_bytes : typeLookup (.type "bytearray") "__bytes__" = pure none := by rw [typeLookup_type, builtinLookup_eq_fast]; kernel_rfl
theorem noIndex : typeLookup (.type "bytearray") "__index__" = pure none := by rw [typeLookup_type, builtinLookup_eq_fast]; kernel_rfl
theorem slot_set : Slot "bytearray" "__setitem__" "bytearray.__setitem__" :=
  .of (owner := "bytearray") (n := "__setitem__") (by rw [typeLookup_type, builtinLookup_eq_fast]; kernel_rfl) (by decide +kernel) (by decide +kernel) (by decide +kernel)
    (by first | exact .inl (by decide +kernel) | exact .inr (by decide +kernel)) (by rw [isSubtype_type]; kernel_rfl)
theorem entry_set : entryFor table "bytearray.__setitem__" = some Builtin.«bytearray.__setitem__» := by first | exact entryFor_of_fast (by kernel_rfl) | exact entryFor_of_tree (by kernel_rfl)
theorem args_set (a b c : Value) : argsOk "bytearray.__setitem__" ⟨[a, b, c], []⟩ := by unfold argsOk; kernel_rfl
theorem bind_init (v : Value) : Builtin.Bytes.bindOptional "bytearray.__init__" "bytearray" ["source", "encoding", "errors"] [v] [] = pure [some v, none, none] := by kernel_rfl
end FA
set_option maxRecDepth 1000000 in
set_option maxHeartbeats 4000000 in
theorem owner_new : ("bytearray.__new__".splitOn ".__new__").headD "" = "bytearray" := by simp +decide [String.splitOn, String.splitOnAux]

abbrev baObj (b : Array UInt8) : Obj := { cls := .type "bytearray", data := .bytearray b }

section
variable {prog : Program} {w : World} {A : Around} {E : Value → Shared → Prop} {s : Shared}

theorem code_ba_new (a : Value) {Q₁ : Value → Shared → Prop}
    (h : Q₁ (.ref s.heap.objs.size) { s with heap := s.heap.push (baObj #[]) }) :
    codeAny (model prog w) A (.call (.builtin "bytearray.__new__") ⟨[.type "bytearray", a], []⟩) (wants Q₁ E) s := by
  refine codeAny_of_tree ?_
  show wpAny _ A.in1 (do checkBuiltinCall "bytearray.__new__" ⟨[.type "bytearray", a], []⟩; again (.builtin "bytearray.__new__" ⟨[.type "bytearray", a], []⟩)) _ _ s
  refine wpAny_bind (wpAny_of_eq (FA.newCall a) (wpAny_pure ⟨plainId_quiet FA.plain_new _, codeAny_builtin_stack FA.entry_new rfl fun p st => ?_⟩))
  rw [Around.under_plainId FA.plain_new _]
  have hsub := FA.sub_self
  have hown := owner_new
  obtain ⟨hp, g, d, tk, os⟩ := s
  simp only [hown]
  wp_walk
  exact h
end

section
variable {prog : Program} {w : World} {A : Around} {E : Value → Shared → Prop} {s : Shared} {S : Addr} {b : Array UInt8}

theorem ba_typeIs (hS : s.heap.get? S = some (baObj b)) : s.TypeIs (.ref S) "bytearray" := ⟨_, hS, rfl⟩

theorem ba_ownRelease {M : Model} {Q : Bool → Shared → Prop} (hS : s.heap.get? S = some (baObj b)) (h : Q false s) : wpAny M A (Builtin.Bytes.ownRelease (.ref S)) Q E s := by
  unfold Builtin.Bytes.ownRelease Builtin.Bytes.slotIsOwn
  refine wpAny_bind (wpAny_bind (wpAny_specialOf (ba_typeIs hS) FA.look_release ?_))
  dsimp only
  refine bm_if_false (by decide +kernel) ?_
  have e : ("bytearray.__release_buffer__".dropRight ("__release_buffer__".length + 1) : String) = "bytearray" := by decide +kernel
  rw [e]
  exact wpAny_isInstance (ba_typeIs hS) FA.sub_self (wpAny_pure h)

theorem ba_write {M : Model} {f : Array UInt8 → Array UInt8} {Q : Unit → Shared → Prop} (hS : s.heap.get? S = some (baObj b)) (hz : (f b).size ≤ sizeLine)
    (h : Q () { s with heap := s.heap.update S (Obj.mapBytearray f) }) : wpAny M A (Builtin.Bytes.write (.ref S) f) Q E s := by
  show wpAny _ _ (updateBytearray S f) _ _ _
  unfold updateBytearray
  refine wpAny_bind (wpAny_load hS ?_)
  show wpAny _ _ (update S (Obj.mapBytearray f) >>= fun _ => lookBehind S) _ _ _
  refine wpAny_bind (wpAny_update hS ?_)
  refine wpAny_lookBehind (o := baObj (f b)) (Heap.get?_update_self (Obj.mapBytearray f) hS rfl) ?_ h
  show (if (f b).size > sizeLine then some "bytearray:memory" else none) = none
  rw [if_neg (by (first | lia | omega))]

theorem ba_payload {M : Model} {Q : Array UInt8 → Shared → Prop} (hS : s.heap.get? S = some (baObj b)) (h : Q b s) : wpAny M A (Builtin.Bytes.payload (.ref S)) Q E s := by
  unfold Builtin.Bytes.payload Builtin.Bytes.payload?
  refine wpAny_bind (wpAny_bind (wpAny_load hS ?_))
  exact wpAny_pure (wpAny_pure h)

theorem wpP_if_false {α : Type} {M : Model} {c : Bool} {a b : Sem α} {Q : α → Shared → Prop} (hc : c = false) (h : wpP M A b Q E s) : wpP M A (if c = true then a else b) Q E s := by
  subst hc
  exact h
theorem wpP_orFalse {M : Model} {x y : Sem Bool} {Q : Bool → Shared → Prop} (hx : wpP M A x (fun r s' => r = false ∧ wpP M A y Q E s') E s) : wpP M A (x <||> y) Q E s := by
  unfold orM
  refine wpP_bind (wpP_mono hx ?_ fun _ _ h => h)
  rintro _ s' ⟨rfl, h⟩
  exact h

theorem ba_init {M : Model} {n : Int} {u : Tok} {Q : Fin → Shared → Prop} (hS : s.heap.get? S = some (baObj b)) (h0 : 0 ≤ n) (hn : n ≤ 1000)
    (h : ∀ h', h'.get? S = some (baObj (Array.replicate n.toNat 0)) → (∀ a o, a ≠ S → s.heap.get? a = some o → h'.get? a = some o) → Q (.done (.ret .none)) { s with heap := h' }) :
    wpP M A (Builtin.«bytearray.__init__» ⟨[.ref S, .int n u], []⟩) Q E s := by
  unfold Builtin.«bytearray.__init__»
  dsimp only
  refine wpP_then (ba_ownRelease hS ?_)
  refine wpP_if_false rfl ?_
  rw [FA.bind_init]
  refine wpP_then (wpAny_pure ?_)
  dsimp only
  refine wpP_then (wpAny_of_eq (a := ()) rfl ?_)
  refine wpP_then (wpAny_of_eq (a := ()) rfl ?_)
  refine wpP_bind ?_
  refine wpP_orFalse (wpP_exported ⟨rfl, ?_⟩)
  unfold Builtin.Bytes.exportsOf
  refine wpP_then (wpAny_bind (wpAny_load hS (wpAny_pure ?_)))
  refine wpP_pure ?_
  refine wpP_if_false rfl ?_
  refine wpP_then (ba_write hS (Nat.zero_le _) ?_)
  have hS₁ : (s.heap.update S (Obj.mapBytearray fun _ => #[])).get? S = some (baObj #[]) := Heap.get?_update_self (Obj.mapBytearray fun _ => #[]) hS rfl
  refine wpP_then (wpAny_of_eq (a := none) rfl ?_)
  refine wpP_if_false rfl ?_
  refine wpP_if_false (by simp only [Builtin.Bytes.fitsIndex, Bool.not_eq_false', Bool.and_eq_true, decide_eq_true_eq]; (first | lia | omega)) ?_
  rw [if_neg (by (first | lia | omega) : ¬ n < 0)]
  refine wpP_if_false (by simp only [beq_eq_false_iff_ne, ne_eq]; (first | lia | omega)) ?_
  refine wpP_if_false (by simp only [Builtin.Bytes.tooLong, decide_eq_false_iff_not, sizeLine_eq]; (first | lia | omega)) ?_
  refine wpP_then (wpAny_rule ?_)
  have oth : ∀ a o, a ≠ S → s.heap.get? a = some o → (s.heap.update S (Obj.mapBytearray fun _ => #[])).get? a = some o := fun a o ha e => (Heap.get?_update_other _ _ (Ne.symm ha)).trans e
  by_cases hp : n > 0
  · rw [if_pos hp]
    refine wpP_then (ba_write hS₁ (by rw [Array.size_replicate, sizeLine_eq]; (first | lia | omega)) ?_)
    refine wpP_pure (h _ (Heap.get?_update_self (Obj.mapBytearray fun _ => Array.replicate n.toNat 0) hS₁ rfl) fun a o ha e => (Heap.get?_update_other _ _ (Ne.symm ha)).trans (oth a o ha e))
  · rw [if_neg hp]
    have : n = 0 := by (first | lia | omega)
    subst this
    exact wpP_pure (h _ hS₁ oth)

def lendsId (id : String) : Bool := Builtin.Bytes.decodersThatHold.contains id || ["bytearray.__contains__", "bytearray.__mod__", "bytearray.__rmod__", "_struct.pack_into.held", "bytearray.find.held"].contains id
theorem lends_of {id : String} {args : Args} (h : lendsId id = false) : lends (.builtin id args) = false := h
theorem codeP_builtin {id : String} {args : Args} {b : Builtin} {R : Result → Shared → Prop} (hl : lends (.builtin id args) = false) (hb : entryFor table id = some b)
    (h : wpP (model prog w) (A.under (.builtin id args)) (b args)
      (fun fin s' => match fin with | .done f => R (.ok f) s' | .again c' => c'.quiet = true ∧ codeP (model prog w) A c' R s') (fun e s' => R (.error e) s') s) :
    codeP (model prog w) A (.builtin id args) R s := by
  refine codeP_of_tree hl ?_
  show wpP _ _ (match entryFor table id with | some b => b args | none => unsupported ((withoutEnding? id "#data").getD id)) _ _ s
  rw [hb]; exact h
theorem codeP_call_builtin {id : String} {args : Args} {b : Builtin} {R : Result → Shared → Prop} (hq : plainId id = true) (hl : lends (.builtin id args) = false) (hb : entryFor table id = some b)
    (h : wpAny (model prog w) A.in1 (checkBuiltinCall id args) (fun _ s₁ => wpP (model prog w) A.in1 (b args)
      (fun fin s' => match fin with | .done f => R (.ok f) s' | .again c' => c'.quiet = true ∧ codeP (model prog w) A c' R s') (fun e s' => R (.error e) s') s₁)
      (fun e s' => R (.error e) s') s) : codeP (model prog w) A (.call (.builtin id) args) R s := by
  refine codeP_of_tree rfl ?_
  show wpP _ A.in1 (do checkBuiltinCall id args; again (.builtin id args)) _ _ s
  refine wpP_then (wpAny_mono h (fun _ s₁ h₁ => wpP_pure (And.intro (plainId_quiet hq args) (codeP_builtin hl hb ?_))) fun _ _ h' => h')
  rw [Around.under_plainId hq args]; exact h₁

theorem call_bytearray {n : Int} {u : Tok} {Q : Value → Shared → Prop} (h0 : 0 ≤ n) (hn : n ≤ 1000)
    (h : ∀ h', h'.get? s.heap.objs.size = some (baObj (Array.replicate n.toNat 0)) → (∀ a o, s.heap.get? a = some o → h'.get? a = some o) → Q (.ref s.heap.objs.size) { s with heap := h' }) :
    wpP (model prog w) A (call (.type "bytearray") [.int n u]) Q E s := by
  refine wpP_call (codeP_of_tree rfl ?_)
  show wpP _ _ (callAny (.type "bytearray") _) _ _ _
  refine wpP_pure ⟨Code.quiet_builtin _ (by decide +kernel), codeP_builtin (lends_of (by decide +kernel)) PySem.F.entry_type_call ?_⟩
  rw [Around.under_plain (weight_type_call_type "bytearray" [.int n u] []) rfl]
  unfold Builtin.«type.__call__»
  dsimp only
  refine wpP_if_false rfl ?_
  refine wpP_if_false FA.called.canCreate ?_
  refine wpP_then (wpAny_of_eq (FA.typeCall _) ?_)
  refine wpP_then (wpAny_of_eq FA.mro ?_)
  refine wpP_if_false rfl ?_
  refine wpP_then (wpAny_of_eq FA.called.made ?_)
  refine wpP_then (wpAny_pure ?_)
  refine wpP_bind (wpP_holding (wpP_any (wpAny_call (codeAny_mono (code_ba_new (E := fun _ _ => False) (Q₁ := fun obj s₁ => obj = .ref s.heap.objs.size ∧ s₁ = { s with heap := s.heap.push (baObj #[]) }) (.int n u) ⟨rfl, rfl⟩) fun r s₁ hr => ?_))))
  rcases r with e | (_ | _ | _ | obj) <;> first | exact hr.elim | skip
  obtain ⟨rfl, rfl⟩ := hr
  have hS : (s.heap.push (baObj #[])).get? s.heap.objs.size = some (baObj #[]) := Heap.get?_push_size _ rfl
  dsimp only
  refine wpP_then (wpAny_isInstance (s := { s with heap := s.heap.push (baObj #[]) }) ⟨_, hS, rfl⟩ FA.sub_self ?_)
  refine wpP_if_false rfl ?_
  refine wpP_bind (wpP_holding ?_)
  unfold callSpecial?
  refine wpP_then (wpAny_specialOf (s := { s with heap := s.heap.push (baObj #[]) }) ⟨_, hS, rfl⟩ FA.slot_init.lookup ?_)
  dsimp only
  refine wpP_holding ?_
  rw [FA.slot_init.bind]
  refine wpP_then (wpAny_pure ?_)
  dsimp only
  refine wpP_bind (wpP_call (codeP_call_builtin FA.plain_init (lends_of (by decide +kernel)) FA.entry_init (FA.slot_init.check _ _ _ _ _ _ _ _ ⟨_, hS, rfl⟩ (FA.args_init _ _) ?_)))
  refine ba_init (s := { s with heap := s.heap.push (baObj #[]) }) hS h0 hn fun h' hS' hk => ?_
  refine wpP_pure ?_
  exact wpP_pure (h h' hS' fun a o e => hk a o (Nat.ne_of_lt (Heap.lt_size e)) (Heap.get?_push_of_some _ e))

/-- an octet is laid -/
theorem setItem_ba {S : Addr} {b : Array UInt8} {i v : Int} {t u : Tok} {Q : Unit → Shared → Prop} (hS : s.heap.get? S = some (baObj b)) (h0 : 0 ≤ i) (h1 : i < b.size) (hz : b.size ≤ 1000) (hv0 : 0 ≤ v) (hv1 : v < 256)
    (h : Q () { s with heap := s.heap.update S (Obj.mapBytearray (·.setIfInBounds i.toNat v.toNat.toUInt8)) }) : wpAny (model prog w) A (setItem (.ref S) (.int i t) (.int v u)) Q E s := by
  have hT : s.TypeIs (.ref S) "bytearray" := ba_typeIs hS
  unfold setItem
  try with_reducible refine wpAny_holding ?_
  refine wpAny_bind (wpAny_sequenceKey hT (by decide) ?_)
  refine wpAny_bind (wpAny_callSpecial?_slot (name := Str.ofString "__setitem__") hT FA.slot_set
    (wpAny_call_entry FA.slot_set hT FA.entry_set ?_ (FA.args_set _ _ _)))
  show wpAny _ _ (Builtin.Bytes.subscript? (.int i t) >>= _) _ _ s
  refine wpAny_bind ?_
  unfold Builtin.Bytes.subscript?
  refine wpAny_bind (wpAny_specialOf (typeIs_int s i t) PySem.F.slot_int_index.lookup ?_)
  show wpAny _ _ (if (!Builtin.Bytes.fitsIndex i) = true then _ else pure (some i)) _ _ s
  refine bm_if_false (by simp only [Builtin.Bytes.fitsIndex, Bool.not_eq_false', Bool.and_eq_true, decide_eq_true_eq]; (first | lia | omega)) ?_
  refine wpAny_pure ?_
  show wpAny _ _ (Builtin.Bytes.byteValue (.int v u) >>= _) _ _ s
  refine wpAny_bind ?_
  unfold Builtin.Bytes.byteValue
  refine wpAny_bind (wpAny_of_eq (rfl : asIndex (.int v u) = pure v) ?_)
  refine bm_if_false (by simp only [Bool.or_eq_false_iff, decide_eq_false_iff_not]; (first | lia | omega)) ?_
  refine wpAny_pure ?_
  refine wpAny_bind (ba_payload hS ?_)
  have e : seqIndex? i b.size = some i.toNat := by
    have hn : ¬ i < 0 := by (first | lia | omega)
    simp [seqIndex?, hn, h0, h1]
  rw [e]
  dsimp only
  refine wpAny_bind (ba_write hS (by rw [Array.size_setIfInBounds, sizeLine_eq]; (first | lia | omega)) ?_)
  first
    | exact wpAny_pure ⟨.none, rfl, wpAny_pure h⟩
    | exact wpAny_bind (wpAny_pure (wpAny_pure ⟨.none, rfl, wpAny_pure h⟩))

theorem byteArr_set (ns : List Int) (k : Nat) (v : Int) : (byteArr ns).setIfInBounds k v.toNat.toUInt8 = byteArr (ns.set k v) := by
  apply Array.toList_inj.mp
  simp [byteArr, List.map_set]
theorem byteArr_nils (n : Nat) : Array.replicate n (0 : UInt8) = byteArr (List.replicate n 0) := by
  apply Array.toList_inj.mp
  simp [byteArr]

section
variable {h₀ : Heap} {L D : Addr} {m : PySem.Str → Option Value} {news news' : List (Addr × Obj)}
theorem set_ba_K {ns : List Int} {i v : Int} {t u : Tok} {Q : Unit → Shared → Prop} (F : Fr h₀ L s.heap m) (N : News h₀ L s.heap news) (U : Upd D (baObj (byteArr ns)) (baObj (byteArr (ns.set i.toNat v))) news news')
    (h0 : 0 ≤ i) (h1 : i < ns.length) (hz : ns.length ≤ 1000) (hv0 : 0 ≤ v) (hv1 : v < 256)
    (h : ∀ h', Fr h₀ L h' m → News h₀ L h' news' → Q () { s with heap := h' }) : wpAny (model prog w) A (setItem (.ref D) (.int i t) (.int v u)) Q E s := by
  obtain ⟨pre, post, rfl, rfl, a, b⟩ := U.split
  have z := N (D, baObj (byteArr ns)) (List.mem_append.mpr (.inr (.head _)))
  refine setItem_ba z.1 h0 (by rw [byteArr_size]; exact h1) (by rw [byteArr_size]; exact hz) hv0 hv1 ?_
  refine h _ (F.change (Heap.SameBut.update ..) z.2.1 z.2.2) (news_set N a b (Heap.SameBut.update ..) ?_)
  rw [← byteArr_set]
  exact Heap.get?_update_self (Obj.mapBytearray (·.setIfInBounds i.toNat v.toNat.toUInt8)) z.1 rfl
theorem ba_new_K {n : Int} {u : Tok} {Q : Value → Shared → Prop} (F : Fr h₀ L s.heap m) (N : News h₀ L s.heap news) (h0 : 0 ≤ n) (hn : n ≤ 1000)
    (h : ∀ D h', Fr h₀ L h' m → News h₀ L h' ((D, baObj (byteArr (List.replicate n.toNat 0))) :: news) → (∀ p ∈ news, p.1 < D) → Q (.ref D) { s with heap := h' }) :
    wpP (model prog w) A (call (.type "bytearray") [.int n u]) Q E s := by
  refine call_bytearray h0 hn fun h' hS keep => ?_
  rw [byteArr_nils] at hS
  exact h _ h' (F.kept keep) (News.kept_cons F N keep (Nat.le_refl _) hS) fun p hp => Heap.lt_size (N p hp).1
end

theorem ba_buffer {M : Model} {id : String} {S : Addr} {b : Array UInt8} {Q : Option (Array UInt8) → Shared → Prop} (hS : s.heap.get? S = some (baObj b)) (h : Q (some b) s) : wpAny M A (Builtin.Bytes.buffer? id (.ref S) true) Q E s := by
  have hT : s.TypeIs (.ref S) "bytearray" := ba_typeIs hS
  unfold Builtin.Bytes.buffer?
  refine wpAny_bind (wpAny_specialOf hT FA.look_buffer ?_)
  dsimp only
  refine wpAny_bind ?_
  unfold Builtin.Bytes.slotIsOwn
  refine wpAny_bind (wpAny_specialOf hT FA.look_buffer ?_)
  dsimp only
  refine bm_if_false (by decide +kernel) ?_
  have e : ("bytearray.__buffer__".dropRight ("__buffer__".length + 1) : String) = "bytearray" := by decide +kernel
  rw [e]
  refine wpAny_isInstance hT FA.sub_self ?_
  refine bm_if_false rfl ?_
  refine wpAny_bind (wpAny_specialOf hT FA.look_buffer ?_)
  refine wpAny_bind (ba_ownRelease hS ?_)
  refine bm_if_false rfl ?_
  exact wpAny_bind (ba_payload hS (wpAny_pure h))

theorem bytes_ba {S : Addr} {b : Array UInt8} {Q : Value → Shared → Prop} (hS : s.heap.get? S = some (baObj b)) (hz : b.size ≤ 1000)
    (hQ : ∀ t k, Q (.bytes b t) { s with toks := k }) : wpAny (model prog w) A (call (.type "bytes") [.ref S]) Q E s := by
  have hT : s.TypeIs (.ref S) "bytearray" := ba_typeIs hS
  refine callType_codes (Q₁ := fun obj s₁ => s₁.TypeIs obj "bytes" ∧ Q obj s₁) PySem.F.bm_called (PySem.F.bm_typeCall _) PySem.F.entry_object_init
    ?_ fun obj s₁ h₁ => ⟨h₁.1, PySem.F.args_object_init_2 obj _, object_init_meets PySem.F.bm_called.init.lookup PySem.F.bm_called.made (by decide) prog w A.in1 _ s₁ ⟨h₁.1, rfl, h₁.2⟩⟩
  refine codeAny_of_tree ?_
  show wpAny _ A.in1.in1 (do checkBuiltinCall "bytes.__new__" ⟨[.type "bytes", .ref S], []⟩; again (.builtin "bytes.__new__" ⟨[.type "bytes", .ref S], []⟩)) _ _ s
  refine wpAny_bind (wpAny_of_eq (PySem.F.bm_newCall _) (wpAny_pure ⟨plainId_quiet PySem.F.bm_plain _, codeAny_builtin PySem.F.bm_entry ?_⟩))
  rw [Around.under_plainId PySem.F.bm_plain _]
  unfold Builtin.«bytes.__new__»
  refine wpAny_bind (wpAny_of_eq (a := true) rfl ?_)
  refine bm_if_false rfl ?_
  refine wpAny_bind (wpAny_of_eq PySem.F.bm_sub ?_)
  refine bm_if_false rfl ?_
  refine wpAny_bind (wpAny_of_eq (PySem.F.bm_bind _) ?_)
  refine wpAny_bind (wpAny_of_eq (a := ()) rfl ?_)
  refine wpAny_bind (wpAny_of_eq (a := ()) rfl ?_)
  refine bm_if_false rfl ?_
  refine wpAny_bind (wpAny_specialOf hT FA.no_bytes ?_)
  refine wpAny_bind (wpAny_bind ?_)
  show wpAny _ _ (load S >>= _) _ _ _
  refine wpAny_bind (wpAny_load hS ?_)
  refine wpAny_pure (wpAny_pure ?_)
  refine bm_if_false rfl ?_
  refine wpAny_bind (wpAny_specialOf hT FA.noIndex ?_)
  refine bm_if_true rfl ?_
  first
    | show wpAny _ _ (Builtin.Bytes.buffer? "bytes.__new__" (.ref S) true >>= _) _ _ _
    | (refine wpAny_bind ?_; show wpAny _ _ (Builtin.Bytes.buffer? "bytes.__new__" (.ref S) true >>= _) _ _ _)
  refine wpAny_bind (ba_buffer hS ?_)
  dsimp only
  refine wpAny_bind (wpAny_rule ?_)
  refine wpAny_bind (wpAny_mkBytes ?_ (by rw [sizeLine_eq]; (first | lia | omega)))
  show wpAny _ _ (if (Value.type "bytes" == Value.type "bytes") = true then _ else _) _ _ _
  refine bm_if_true (by decide) ?_
  exact wpAny_pure ⟨PySem.W.typeIs_bytes _ _ _, hQ _ _⟩
end

section
variable {prog : Program} {w : World} {A : Around} {s : Shared} {K : Frag} {E : Value → Shared → Prop} {Q : Value → Shared → Prop} {R : Result → Shared → Prop}
  {p : Program} {loose : List Str} {mean : ExcName → Option Value} {mg mb : Str → Option Value}
  {name qual : Str} {params : Arguments} {body : List Stmt} {scope : Scope} {dV kV doc pm cdv ct oc : Value} {an od : Option Addr} {osl : Array (Option Value)} {f : Addr} {vs : List Value} {kw : List (Str × Value)} {binds : List (Str × Value)}

theorem codeP_call_function {a : Addr} {args : Args} {o : Obj} {fd : FuncData} (hroom : A.depth < recursionLimit)
    (ho : s.heap.get? a = some o)
    (hd' : o.data = .func fd) (hco : fd.scope.isCoroutine = false) (hgen : fd.scope.isGenerator = false) (hbody : fd.body = .stmts body) (hcd : s.heap.CodeRec fd.code fd.qualname)
    (h : wpAny (model prog w) A.in1 (bindArgs fd args) (fun binds s₁ =>
      wpAny (model prog w) A.in1 (newFunctionEnv fd.scope fd.globals fd.closure binds (fd.qualname ++ ".<locals>.") (some a) fd.code none fd.builtins)
        (fun env s₂ => s₂.heap.NoLimit ∧ codeP (model prog w) A (.func body env) R s₂) (fun e s' => R (.error e) s') s₁) (fun e s' => R (.error e) s') s) :
    codeP (model prog w) A (.call (.ref a) args) R s := by
  refine codeP_of_tree rfl ?_
  show wpP _ A.in1 (callAny (.ref a) args) _ _ s
  simp only [callAny]
  refine wpP_then (wpAny_load ho ?_)
  obtain ⟨c, oc, vs, tq, hc, hoc, hdc, hq⟩ := hcd
  simp only [hd', callFunction, hco, hgen, hbody, hc]
  rw [hc] at h
  refine wpP_then (m := field (.ref c) 1) (wpAny_field hoc hdc hq ?_)
  refine wpP_then (wpAny_pure ?_)
  refine wpP_then (wpAny_mono h (fun binds s₁ h₁ => ?_) fun _ _ h' => h')
  refine wpP_then (wpAny_mono h₁ (fun env s₂ h₂ => ?_) fun _ _ h' => h')
  exact wpP_then (wpAny_enterFrame h₂.1 hroom (wpP_pure (And.intro rfl h₂.2)))

theorem codeP_func {env : Env}
    (h : wpP (model prog w) (A.deeper env) (execs body env) (fun f s' => R (.ok (.ret (retOf f))) s') (fun _ _ => False) s) :
    codeP (model prog w) A (.func body env) R s := by
  refine codeP_of_tree rfl ?_
  show wpP _ (A.deeper env) (do point; match ← (execs body env).onRaise (leaving env) with | .ret v => ret v | _ => ret .none) _ _ s
  refine wpP_then (wpAny_point ?_)
  refine wpP_bind (wpP_onRaise (wpP_mono h (fun f s' h' => ?_) fun _ _ h' => h'.elim))
  cases f <;> exact wpP_pure h'

theorem enterP (X : K.In s.heap) (T : Top p loose mean mg mb s.heap)
    (ho : K.lookup f = some ⟨oc, od, .func (fnOf name qual params body scope dV kV doc pm an cdv ct), osl⟩) (hcd : codeIn K cdv qual = true) (hroom : A.depth < recursionLimit)
    (hbind : BindsTo s (fnOf name qual params body scope dV kV doc pm an cdv ct) ⟨vs, kw⟩ binds) (hloc : ∀ y ∈ binds, scope.names.lookup y.1 = some .local)
    (hco : scope.isCoroutine = false) (hgen : scope.isGenerator = false) (hk : scope.kind = .function)
    (hcell : ∀ x ∈ scope.names, x.2 ≠ .cell)
    (h : ∀ h₁, Fr s.heap s.heap.objs.size h₁ (fun y => binds.reverse.lookup y) → News s.heap s.heap.objs.size h₁ [] →
      wpP (model prog w) (A.deeper (envOf qual scope s.heap.objs.size f cdv)) (execs body (envOf qual scope s.heap.objs.size f cdv))
        (fun fl s' => Q (retOf fl) s') (fun _ _ => False) { s with heap := h₁, toks := s.toks + binds.length }) :
    wpP (model prog w) A (call (.ref f) vs kw) Q E s := by
  refine wpP_call (codeP_call_function hroom (X _ _ ho) rfl hco hgen rfl (codeRec_of X hcd) (hbind _ _ _ _ ?_))
  refine wpAny_newFunctionEnv hcell hloc (fun h₀ hns₀ hsb₀ => ⟨T.nolimit.fresh _ hsb₀, codeP_func ?_⟩) hk
  have keep : ∀ b o, s.heap.get? b = some o → h₀.get? b = some o := fun b o e => hsb₀.extBut b o (Nat.ne_of_lt (Heap.lt_size e)) (Heap.get?_push_of_some _ e)
  exact wpP_mono (h h₀ ⟨hns₀, keep, Nat.le_refl _⟩ News.nil) (fun fl s' hl => by cases fl <;> exact hl) (fun _ _ x => x)

theorem enterCP {o : Obj} (hlim : s.heap.NoLimit) (ho : s.heap.get? f = some o) (hd : o.data = .func (fnOf name qual params body scope dV kV doc pm an cdv ct))
    (hcd : s.heap.CodeRec cdv qual) (hroom : A.depth < recursionLimit)
    (hbind : BindsTo s (fnOf name qual params body scope dV kV doc pm an cdv ct) ⟨vs, kw⟩ binds)
    (hkind : (binds.all fun y => scope.names.lookup y.1 == some .local || scope.names.lookup y.1 == some .cell) = true)
    (hnd : ((cellsFrom 0 scope.names []).map (·.1)).Nodup)
    (hco : scope.isCoroutine = false) (hgen : scope.isGenerator = false) (hk : scope.kind = .function)
    (h : ∀ h₁ tk cells, Fr s.heap s.heap.objs.size h₁ (bindL (envOfC qual scope s.heap.objs.size f cdv).kindOf binds fun _ => none) → News s.heap s.heap.objs.size h₁ cells →
      CellsAre (bindC (envOfC qual scope s.heap.objs.size f cdv).kindOf binds fun _ => none) (cellsFrom (s.heap.objs.size + 1) scope.names []) cells →
      wpP (model prog w) (A.deeper (envOfC qual scope s.heap.objs.size f cdv)) (execs body (envOfC qual scope s.heap.objs.size f cdv))
        (fun fl s' => Q (retOf fl) s') (fun _ _ => False) { s with heap := h₁, toks := tk }) :
    wpP (model prog w) A (call (.ref f) vs kw) Q E s := by
  refine wpP_call (codeP_call_function hroom ho hd hco hgen rfl hcd (hbind _ _ _ _ ?_))
  refine wpAny_newFunctionEnv_cells hk (kindsX hkind _) fun env' he s' x => ?_
  subst he
  refine ⟨hlim.keeps x.toInCall.keep, codeP_func ?_⟩
  obtain ⟨h₁, tk, rfl, _⟩ := x.done
  obtain ⟨cells, NC, Y⟩ := Cl.news (h₀ := s.heap) (Nat.le_refl _) fun n c hm => ⟨x.cell n c (lookup_of_mem_nodup (cellsFrom_names scope.names 0 (s.heap.objs.size + 1) [] [] rfl ▸ hnd) hm), x.above n c hm⟩
  exact wpP_mono (h h₁ tk cells ⟨x.toInCall.ns, x.toInCall.keep, Nat.le_refl _⟩ NC Y) (fun fl s' hl => by cases fl <;> exact hl) (fun _ _ x => x)
end

section
variable {M : Model} {A : Around} {s : Shared} {E : Value → Shared → Prop} {env : Env}

theorem wpP_keep {α : Type} {vs : List Value} {m : Sem α} {Q : α → Shared → Prop} (h : wpP M A m Q E s) : wpP M A (m.keep vs) Q E s :=
  fun Γ p hΓ hc => by rw [Sem.wp_keep]; exact h Γ p hΓ hc
def nextP (M : Model) (A : Around) (rest : List Stmt) (env : Env) (Q : Flow → Shared → Prop) (E : Value → Shared → Prop) (f : Flow) (s : Shared) : Prop :=
  match f with | .next => wpP M A (execs rest env) Q E s | f => Q f s

theorem execs_consP {st : Stmt} {rest : List Stmt} {Q : Flow → Shared → Prop} (h : wpP M A (exec st env) (nextP M A rest env Q E) E s) :
    wpP M A (execs (st :: rest) env) Q E s := by
  rw [execs_cons]
  refine wpP_bind (wpP_mono h (fun f s' h' => ?_) fun _ _ x => x)
  cases f <;> first | exact h' | exact wpP_pure h'
theorem execs_anyP {st : Stmt} {rest : List Stmt} {Q : Flow → Shared → Prop} (h : wpAny M A (exec st env) (nextP M A rest env Q E) E s) :
    wpP M A (execs (st :: rest) env) Q E s := execs_consP (wpP_any h)

theorem Assign_NameP {x pos' value pos} {Q : Flow → Shared → Prop}
    (h : wpP M A (eval value env) (fun v s₁ => wpAny M A (storeName env x v) (fun _ => Q .next) E s₁) E s)
    (hs : swapsWith value (some (.Name x pos')) pos.line env = pure false := by rfl) :
    wpP M A (exec (.Assign [.Name x pos'] value pos) env) Q E s := fun Γ p hΓ hc => by
  simp only [exec_Assign_Name env x pos' value pos hs, Sem.wp_bind', Sem.wp_cmd_standAt, Sem.wp_bindName, Sem.wp_pure']
  exact Sem.wp_mono M Γ _ (fun v _ s₁ h₁ => h₁ Γ _ hΓ) (fun _ _ _ h' => h') _ _ (h Γ _ hΓ hc)

theorem Call_P {func : Expr} {args : List Expr} {pos : Pos} {Q : Value → Shared → Prop}
    (h : wpAny M A (eval func env) (fun f s₁ => wpP M A (callWith pos f [] (backTo pos (starEach args env)) []) Q E s₁) E s)
    (he : eval (.Call func args [] pos) env = (do callWith pos (← eval func env) [] (backTo pos (starEach args env)) (backToKw pos (keywordEach [] env))) := by rfl) :
    wpP M A (eval (.Call func args [] pos) env) Q E s := by
  rw [he]; exact wpP_then h

theorem callWith_typeP {pos : Pos} {T : String} {args : List (Bool × Sem Value)} {Q : Value → Shared → Prop}
    (hplain : args.any (·.1) = false)
    (h : wpAny M A (evalArgs (.type T) true args []) (fun a s₁ => wpP M A (call (.type T) a.pos a.kw) Q E s₁) E s) :
    wpP M A (callWith pos (.type T) [] args []) Q E s := by
  unfold callWith
  refine wpP_bind (wpP_holding (wpP_any (wpAny_mono h (fun a s₁ h₁ => ?_) fun _ _ x => x)))
  refine wpP_then (wpAny_standAt ?_)
  simp only [hplain, List.any_nil, Bool.or_false]
  refine wpP_then (wpAny_pure ?_)
  refine wpP_bind (wpP_mono h₁ (fun r s₂ hr => ?_) fun _ _ x => x)
  exact wpP_then (wpAny_holding (wpAny_point (wpP_pure hr)))
theorem callWith_type1P {pos : Pos} {T : String} {e : Expr} {rest : List Expr} {Q : Value → Shared → Prop}
    (h : wpAny M A (spliced (backTo pos (starEach (e :: rest) env))) (fun vs s₁ => wpP M A (call (.type T) vs) Q E s₁) E s)
    (he : starEach (e :: rest) env = (false, eval e env) :: starEach rest env := by rfl) (hplain : (backTo pos (starEach rest env)).any (·.1) = false := by rfl) :
    wpP M A (callWith pos (.type T) [] (backTo pos (starEach (e :: rest) env)) []) Q E s := by
  rw [he] at h ⊢
  exact callWith_typeP (by show (false || (backTo pos (starEach rest env)).any (·.1)) = false; rw [hplain]; rfl) (evalArgs_plain h)

theorem callWith_KP {K : Frag} {f : Value} {e : Expr} {rest : List Expr} {pos : Pos} {Q : Value → Shared → Prop} (hk : keepIn K f = true) (h : wpAny M A (spliced (backTo pos (starEach (e :: rest) env))) (fun vs s₁ => K.In s₁.heap ∧ wpP M A (call f vs) Q E s₁) E s)
    (he : starEach (e :: rest) env = (false, eval e env) :: starEach rest env := by rfl) (hplain : (backTo pos (starEach rest env)).any (·.1) = false := by rfl) :
    wpP M A (callWith pos f [] (backTo pos (starEach (e :: rest) env)) []) Q E s := by
  rw [he] at h ⊢
  unfold callWith
  refine wpP_bind (wpP_holding (wpP_any (wpAny_mono (evalArgs_plain (Q := fun a s₁ => K.In s₁.heap ∧ wpP M A (call f a.pos a.kw) Q E s₁) h) (fun a s₁ h₁ => ?_) fun _ _ x => x)))
  refine wpP_then (wpAny_standAt ?_)
  obtain ⟨k, hk', L⟩ := looks_keep (M := M) hk h₁.1
  have hp : ((false, eval e env) :: backTo pos (starEach rest env)).any (·.1) = false := by show (false || (backTo pos (starEach rest env)).any (·.1)) = false; rw [hplain]; rfl
  have hp' : (backTo pos ((false, eval e env) :: starEach rest env)).any (·.1) = false := hp
  simp only [hp', List.any_nil, Bool.or_false]
  refine wpP_then (L.here ?_)
  have tail : ∀ {t : Sem Value}, wpP M A t Q E s₁ → wpP M A (t >>= fun r => holding [r] point >>= fun _ => pure r) Q E s₁ :=
    fun ht => wpP_bind (wpP_mono ht (fun r s₂ hr => wpP_then (wpAny_holding (wpAny_point (wpP_pure hr)))) fun _ _ x => x)
  have marked (mk : Value) : wpP M A (callMarked mk f ([] ++ a.pos) a.kw) Q E s₁ := by unfold callMarked; exact wpP_keep h₁.2
  rcases hk' with rfl | rfl <;> dsimp only <;> first | exact tail h₁.2 | (split <;> first | exact tail h₁.2 | exact tail (marked _))
end
section
variable {M : Model} {A : Around} {s : Shared} {E : Value → Shared → Prop} {env : Env}
end

theorem use_tells {prog : Program} {w : World} {K : Frag} {p : Program} {loose : List Str} {mean : ExcName → Option Value} {mg mb : Str → Option Value} {f : Addr} {d u : Nat} {vs : List Value} {pre : Heap → Prop} {R : Heap → Value → Prop}
    {A : Around} {h₀ : Heap} {L : Addr} {m : Str → Option Value} {news : List (Addr × Obj)} {s : Shared} {Q E : Value → Shared → Prop} (C : Tells prog w K p loose mean mg mb f d u vs pre R) (hh : A.handled = none)
    (F : Fr h₀ L s.heap m) (N : News h₀ L s.heap news) (X : K.In h₀) (T : Top p loose mean mg mb h₀) (hd : A.depth + d < recursionLimit) (hu : A.units + u < cLine) (hp : pre s.heap)
    (h : ∀ r h' k, Fr h₀ L h' m → News h₀ L h' news → R h' r → Q r { s with heap := h', toks := k }) : wpAny (model prog w) A (call (.ref f) vs) Q E s := by
  obtain ⟨hd', dp, fr, gd, un⟩ := A
  cases hh
  exact C dp un fr gd s Q E (X.keeps F.keep) (T.keeps F.keep) hd hu hp fun r h' tk' keep hr => h r h' tk' (F.keptAll keep) (N.grown keep) hr

/-- so many lie below -/
def below (ns : List Int) (x : Int) : Nat := (ns.filter fun n => decide (n < x)).length

def BI (ns : List Int) (x lo hi : Int) : Prop := (∀ k : Nat, (k : Int) < lo → ns.getD k 0 < x) ∧ (∀ k : Nat, hi ≤ (k : Int) → k < ns.length → ¬ ns.getD k 0 < x)
theorem below_eq : ∀ (ns : List Int) (x : Int) (i : Nat), i ≤ ns.length → (∀ k : Nat, k < i → ns.getD k 0 < x) → (∀ k : Nat, i ≤ k → k < ns.length → ¬ ns.getD k 0 < x) → below ns x = i
  | [], x, i, h, _, _ => by simp at h; subst h; rfl
  | n :: ns, x, 0, h, h1, h2 => by
    have e := below_eq ns x 0 (Nat.zero_le _) (fun k hk => absurd hk (Nat.not_lt_zero _)) fun k _ hl => h2 (k + 1) (Nat.zero_le _) (Nat.succ_lt_succ hl)
    have h3 : ¬ n < x := h2 0 (Nat.le_refl _) (Nat.succ_pos _)
    simp only [below, List.filter_cons, decide_eq_true_eq, h3, if_false] at e ⊢
    exact e
  | n :: ns, x, i + 1, h, h1, h2 => by
    have e := below_eq ns x i (Nat.le_of_succ_le_succ h) (fun k hk => h1 (k + 1) (Nat.succ_lt_succ hk)) fun k hk hl => h2 (k + 1) (Nat.succ_le_succ hk) (Nat.succ_lt_succ hl)
    have h3 : n < x := h1 0 (Nat.succ_pos _)
    simp only [below, List.filter_cons, decide_eq_true_eq, h3, if_true, List.length_cons] at e ⊢
    rw [e]
theorem BI.start (ns : List Int) (x : Int) : (0 : Int) ≤ 0 ∧ (0 : Int) ≤ (ns.length : Nat) ∧ ((ns.length : Nat) : Int) ≤ ns.length ∧ BI ns x 0 ns.length :=
  ⟨by (first | lia | omega), by (first | lia | omega), by (first | lia | omega), fun k hk => by (first | lia | omega), fun k hk hl => by (first | lia | omega)⟩
theorem BI.up {ns : List Int} {x lo hi : Int} (hs : ns.Pairwise (· ≤ ·)) (h : BI ns x lo hi) (h0 : 0 ≤ lo) (h1 : hi ≤ ns.length) (h2 : lo < hi) (h3 : ns.getD (Int.fdiv (lo + hi) 2).toNat 0 < x) :
    0 ≤ Int.fdiv (lo + hi) 2 + 1 ∧ Int.fdiv (lo + hi) 2 + 1 ≤ hi ∧ hi ≤ ns.length ∧ BI ns x (Int.fdiv (lo + hi) 2 + 1) hi := by
  rw [Int.fdiv_eq_ediv_of_nonneg _ (by decide)] at h3 ⊢
  exact ⟨by (first | lia | omega), by (first | lia | omega), h1, fun k hk => Int.lt_of_le_of_lt (sorted_getD_le hs (by (first | lia | omega)) (by (first | lia | omega))) h3, h.2⟩
theorem BI.down {ns : List Int} {x lo hi : Int} (hs : ns.Pairwise (· ≤ ·)) (h : BI ns x lo hi) (h0 : 0 ≤ lo) (h1 : hi ≤ ns.length) (h2 : lo < hi) (h3 : ¬ ns.getD (Int.fdiv (lo + hi) 2).toNat 0 < x) :
    0 ≤ lo ∧ lo ≤ Int.fdiv (lo + hi) 2 ∧ Int.fdiv (lo + hi) 2 ≤ ns.length ∧ BI ns x lo (Int.fdiv (lo + hi) 2) := by
  rw [Int.fdiv_eq_ediv_of_nonneg _ (by decide)] at h3 ⊢
  exact ⟨h0, by (first | lia | omega), by (first | lia | omega), h.1, fun k hk hl hlt => h3 (Int.lt_of_le_of_lt (sorted_getD_le hs (by (first | lia | omega)) hl) hlt)⟩
theorem BI.m1 {lo hi : Int} (h2 : lo < hi) : (hi - (Int.fdiv (lo + hi) 2 + 1)).toNat < (hi - lo).toNat := by
  rw [Int.fdiv_eq_ediv_of_nonneg _ (by decide)]; (first | lia | omega)
theorem BI.m2 {lo hi : Int} (h2 : lo < hi) : (Int.fdiv (lo + hi) 2 - lo).toNat < (hi - lo).toNat := by
  rw [Int.fdiv_eq_ediv_of_nonneg _ (by decide)]; (first | lia | omega)
theorem BI.stop {ns : List Int} {x lo hi : Int} (h : BI ns x lo hi) (h0 : 0 ≤ lo) (h1 : hi ≤ ns.length) (h2 : lo ≤ hi) (h3 : ¬ lo < hi) : lo = (below ns x : Int) := by
  have e : lo = hi := by (first | lia | omega)
  subst e
  have := below_eq ns x lo.toNat (by (first | lia | omega)) (fun k hk => h.1 k (by (first | lia | omega))) (fun k hk hl => h.2 k (by (first | lia | omega)) hl)
  (first | lia | omega)

set_option maxHeartbeats 8000000 in
theorem bisect2_tells (w : World) (loose : List Str) (mean : ExcName → Option Value) (mg mb : Str → Option Value) (a : Addr) (vs : List Value) (ns : List Int) (x : Int) (u : Tok) (hI : IntsAre vs ns) (hs : ns.Pairwise (· ≤ ·)) (hz : ns.length ≤ 1000) :
    Tells Challenge.rw_ic0001_01.row.toRowW.prog w (Mine.hd.heap_39 w.params) Mine.hd.view_39 loose mean mg mb 39 3 40 [.ref a, .int x u] (fun h => h.IsList a vs.toArray) (fun _ r => ∃ t, r = .int (below ns x : Nat) t) := by
  w_top off
  k_fill
  k_with_none
  k_with "exec While Compare" => k_extra "exec While Compare cons nil"
  unfold Tells
  intro dp un fr gd s Q E X T hd hu hl hret
  k_dflt (refine' enter ?k1 ?k2 ?k3 ?k4 ?k5 ?k6 ?k7 ?c1 ?c2 ?c3 ?c4 ?_; (case k1 => assumption); (case k2 => assumption); (case k3 => k_is); (case k4 => k_is); (case k5 => ktr_room); (case k6 => exact kp_binds (by k_in) (fun _ => rfl)); (case k7 => exact locs rfl); (case c1 => exact rfl); (case c2 => exact rfl); (case c3 => exact rfl); (case c4 => decide); k_whole; intro h' F' N'; (try dsimp only); (try k_fold))
  k_with "state" => first | exact BI.start _ _ | exact BI.up (by assumption) (by assumption) (by assumption) (by assumption) (by assumption) (by assumption) | exact BI.down (by assumption) (by assumption) (by assumption) (by assumption) (by assumption) (by assumption)
  k_with "measure" => first | exact BI.m1 (by assumption) | exact BI.m2 (by assumption)
  k_with "exec While Compare cons nil" => k_while (fun _ lo hi => 0 ≤ lo ∧ lo ≤ hi ∧ hi ≤ (ns.length : Int) ∧ BI ns x lo hi) (fun _ lo hi => (hi - lo).toNat) "lo" "hi"
  k_steps
  refine hret _ _ _ (Fr.keep (by assumption)) ⟨_, congrArg (fun z => Value.int z _) (BI.stop (by assumption) (by assumption) (by assumption) (by assumption) (by assumption))⟩

set_option maxHeartbeats 8000000 in
theorem bisect4_tells (w : World) (loose : List Str) (mean : ExcName → Option Value) (mg mb : Str → Option Value) (a : Addr) (vs : List Value) (ns : List Int) (x : Int) (u u' : Tok) (hI : IntsAre vs ns) (hs : ns.Pairwise (· ≤ ·)) (hz : ns.length ≤ 1000) :
    Tells Challenge.rw_ic0001_01.row.toRowW.prog w (Mine.hd.heap_39 w.params) Mine.hd.view_39 loose mean mg mb 39 3 40 [.ref a, .int x u, .int 0 u', .none] (fun h => h.IsList a vs.toArray) (fun _ r => ∃ t, r = .int (below ns x : Nat) t) := by
  w_top off
  k_fill
  k_with_none
  unfold Tells
  intro dp un fr gd s Q E X T hd hu hl hret
  k_dflt (refine' enter ?k1 ?k2 ?k3 ?k4 ?k5 ?k6 ?k7 ?c1 ?c2 ?c3 ?c4 ?_; (case k1 => assumption); (case k2 => assumption); (case k3 => k_is); (case k4 => k_is); (case k5 => ktr_room); (case k6 => exact kp_binds (by k_in) (fun _ => rfl)); (case k7 => exact locs rfl); (case c1 => exact rfl); (case c2 => exact rfl); (case c3 => exact rfl); (case c4 => decide); k_whole; intro h' F' N'; (try dsimp only); (try k_fold))
  k_with "state" => first | exact BI.start _ _ | exact BI.up (by assumption) (by assumption) (by assumption) (by assumption) (by assumption) (by assumption) | exact BI.down (by assumption) (by assumption) (by assumption) (by assumption) (by assumption) (by assumption)
  k_with "measure" => first | exact BI.m1 (by assumption) | exact BI.m2 (by assumption)
  k_with "exec While Compare cons nil" => k_while (fun _ lo hi => 0 ≤ lo ∧ lo ≤ hi ∧ hi ≤ (ns.length : Int) ∧ BI ns x lo hi) (fun _ lo hi => (hi - lo).toNat) "lo" "hi"
  k_steps
  refine hret _ _ _ (Fr.keep (by assumption)) ⟨_, congrArg (fun z => Value.int z _) (BI.stop (by assumption) (by assumption) (by assumption) (by assumption) (by assumption))⟩

section
variable {prog : Program} {w : World} {A : Around} {s : Shared} {K : Frag} {E : Value → Shared → Prop} {Q : Value → Shared → Prop}
  {p : Program} {loose : List Str} {mean : ExcName → Option Value} {mg mb : Str → Option Value}
  {name qual : Str} {params : Arguments} {body : List Stmt} {scope : Scope} {dV kV doc pm cdv ct oc : Value} {an od : Option Addr} {osl : Array (Option Value)} {f : Addr} {vs : List Value} {kw : List (Str × Value)} {binds : List (Str × Value)}

/-- a call that may change one elder object -/
theorem enterM {h₀ : Heap} {D : Addr} {oD : Obj} (keep : ∀ b o, h₀.get? b = some o → s.heap.get? b = some o) (X : K.In h₀) (T : Top p loose mean mg mb h₀) (hD0 : h₀.get? D = none) (hD : s.heap.get? D = some oD)
    (ho : K.lookup f = some ⟨oc, od, .func (fnOf name qual params body scope dV kV doc pm an cdv ct), osl⟩) (hcd : codeIn K cdv qual = true) (hroom : A.depth < recursionLimit)
    (hbind : K.In s.heap → BindsTo s (fnOf name qual params body scope dV kV doc pm an cdv ct) ⟨vs, kw⟩ binds) (hloc : ∀ y ∈ binds, scope.names.lookup y.1 = some .local)
    (hco : scope.isCoroutine = false) (hgen : scope.isGenerator = false) (hk : scope.kind = .function)
    (hcell : ∀ x ∈ scope.names, x.2 ≠ .cell)
    (h : ∀ g h₁, (∀ b o, b ≠ D → s.heap.get? b = some o → g.get? b = some o) → K.In g → Top p loose mean mg mb g → Fr g s.heap.objs.size h₁ (fun y => binds.reverse.lookup y) → News g s.heap.objs.size h₁ [(D, oD)] →
      wpAny (model prog w) (A.deeper (envOf qual scope s.heap.objs.size f cdv)) (execs body (envOf qual scope s.heap.objs.size f cdv))
        (fun fl s' => Q (retOf fl) s') (fun _ _ => False) { s with heap := h₁, toks := s.toks + binds.length }) :
    wpAny (model prog w) A (call (.ref f) vs kw) Q E s := by
  have Xs := X.keeps keep
  have Ts := T.keeps keep
  refine wpAny_call (codeAny_call_def (fd := fnX name qual params body scope [] dV kV doc pm an cdv ct) (body := body) (binds := binds) hroom (Xs _ _ ho) rfl Ts.nolimit (codeRec_of Xs hcd) rfl (hbind Xs) hcell hloc (fun h₁ hns hk₁ => ?_) hco hgen hk)
  have st : ∀ b o, h₀.get? b = some o → (hideAll s.heap [D]).get? b = some o := fun b o e => hideAll_get _ (keep b o e) fun q => by rw [List.mem_singleton.mp q, hD0] at e; cases e
  refine wpAny_mono (h (hideAll s.heap [D]) h₁ (fun b o hb e => hideAll_get _ e fun q => hb (List.mem_singleton.mp q)) (X.keeps st) (T.keeps st)
    ⟨hns, fun b o e => hk₁ b o (of_hideAll _ e), Nat.le_of_eq (hideAll_size _ _)⟩ fun q hq => ?_) (fun fl s' hl => by cases fl <;> exact hl) (fun _ _ x => x.elim)
  rw [List.mem_singleton.mp hq]
  exact ⟨hk₁ _ _ hD, Nat.ne_of_lt (Heap.lt_size hD), hideAll_none _ (List.mem_singleton.mpr rfl)⟩
end

set_option maxHeartbeats 8000000 in
theorem insort_tells (w : World) (loose : List Str) (mean : ExcName → Option Value) (mg mb : Str → Option Value) (D : Addr) (vs : List Value) (n : Nat) (ns : List Int) (x : Int) (u : Tok) (hI : IntsAre vs ns) (hs : ns.Pairwise (· ≤ ·)) (hz : ns.length ≤ 1000) :
    ∀ (dp un : Nat) (fr : Option (List Env)) (gd : Option (List Code)) (h₀ : Heap) (s : Shared) (Q E : Value → Shared → Prop),
    (∀ b o, h₀.get? b = some o → s.heap.get? b = some o) → (Mine.hd.heap_39 w.params).In h₀ → Top Mine.hd.view_39 loose mean mg mb h₀ → h₀.get? D = none → s.heap.get? D = some (PySem.W.listOf vs.toArray n) → dp + 6 < recursionLimit → un + 60 < cLine →
    (∀ h' tk', (∀ b o, b ≠ D → s.heap.get? b = some o → h'.get? b = some o) → h'.get? D = some (PySem.W.listOf (kl_ins vs (below ns x) (.int x u)).toArray (n + 1)) → Q .none { s with heap := h', toks := tk' }) →
    wpAny (model Challenge.rw_ic0001_01.row.toRowW.prog w) (around dp un fr gd) (call (.ref 30) [.ref D, .int x u]) Q E s := by
  w_top off
  k_fill
  k_with_none
  k_with "call ref" => (k_here; (with_reducible show wpAny _ _ (call (Value.ref 39) [Value.ref _, Value.int _ _, Value.int _ _, Value.none]) _ _ _); k_dflt (refine' use_tells (bisect4_tells _ _ _ _ _ _ _ _ _ _ _ ?qw_hI ?qw_hs ?qw_hz) ?qw_hh ?qw_F ?qw_N ?qw_X ?qw_T ?qw_d ?qw_u ?qw_p ?_; (case qw_hI => assumption); (case qw_hs => assumption); (case qw_hz => assumption); (case qw_hh => exact rfl); (case qw_F => k_asm); (case qw_N => k_asm); (case qw_X => assumption); (case qw_T => assumption); (case qw_d => ktr_room); (case qw_u => ktr_units); (case qw_p => exact News.isList (by k_asm) (by k_mem))); intro r_w h_w k_w F_w N_w hr_w; obtain ⟨t_w, e9_w⟩ := hr_w; subst e9_w)
  k_with "call builtin:list.insert" => (k_here; (with_reducible show wpAny _ _ (call (Value.builtin _) [Value.ref _, Value.int _ _, _]) _ _ _); k_dflt (refine' kl_insert ?qw_F ?qw_N ?qw_f rfl ?qw_U ?qw_z ?_; (case qw_F => k_asm); (case qw_N => k_asm); (case qw_U => k_upd); (case qw_f => (simp only [Builtin.List.listFitsIndex, Bool.and_eq_true, decide_eq_true_eq]; (first | lia | omega))); (case qw_z => (rw [sizeLine_eq, List.toList_toArray]; (first | lia | omega)))); intro h_w F_w N_w)
  intro dp un fr gd h₀ s Q E keep X T hD0 hD hd hu hret
  have hlen := hI.length
  have hb : below ns x ≤ ns.length := List.length_filter_le ..
  k_dflt (refine' enterM ?k0 ?k1 ?k2 ?kd ?kD ?k3 ?k4 ?k5 ?k6 ?k7 ?c1 ?c2 ?c3 ?c4 ?_; (case k0 => assumption); (case k1 => assumption); (case k2 => assumption); (case kd => assumption); (case kD => assumption); (case k3 => k_is); (case k4 => k_is); (case k5 => ktr_room); (case k6 => (intro Xs; exact kp_binds Xs (fun _ => rfl))); (case k7 => exact locs rfl); (case c1 => exact rfl); (case c2 => exact rfl); (case c3 => exact rfl); (case c4 => decide); k_whole; intro g' h' kg' Xg' Tg' F' N'; (try dsimp only); (try k_fold))
  k_steps
  (with_reducible rename Fr _ _ _ _ => F9); (with_reducible rename News _ _ _ _ => N9)
  exact hret _ _ (fun b o hb e => F9.keep b o (kg' b o hb e)) (N9 _ (List.mem_singleton.mpr rfl)).1

/-- x laid into its place -/
def insS (ns : List Int) (x : Int) : List Int := ns.take (below ns x) ++ x :: ns.drop (below ns x)
theorem insS_perm (ns : List Int) (x : Int) : (insS ns x).Perm (x :: ns) := by
  unfold insS
  refine List.perm_middle.trans (List.Perm.cons x ?_)
  rw [List.take_append_drop]
theorem insS_length (ns : List Int) (x : Int) : (insS ns x).length = ns.length + 1 := by rw [(insS_perm ns x).length_eq]; rfl
theorem below_nil_of {x : Int} : ∀ {ns : List Int}, (∀ y ∈ ns, x ≤ y) → below ns x = 0
  | [], _ => rfl
  | n :: ns, h => by
    have h1 : ¬ n < x := Int.not_lt.mpr (h n (List.mem_cons_self ..))
    have := below_nil_of (ns := ns) fun y hy => h y (List.mem_cons_of_mem _ hy)
    simp only [below, List.filter_cons, decide_eq_true_eq, h1, if_false] at this ⊢
    exact this
theorem insS_sorted : ∀ {ns : List Int} {x : Int}, ns.Pairwise (· ≤ ·) → (insS ns x).Pairwise (· ≤ ·)
  | [], x, _ => by simp [insS]
  | n :: ns, x, h => by
    obtain ⟨h1, h2⟩ := List.pairwise_cons.mp h
    by_cases hn : n < x
    · have e : insS (n :: ns) x = n :: insS ns x := by
        unfold insS
        have : below (n :: ns) x = below ns x + 1 := by simp [below, hn]
        rw [this]; rfl
      rw [e]
      refine List.pairwise_cons.mpr ⟨fun y hy => ?_, insS_sorted h2⟩
      rcases List.mem_cons.mp ((insS_perm ns x).mem_iff.mp hy) with rfl | hy
      · exact Int.le_of_lt hn
      · exact h1 y hy
    · have e : insS (n :: ns) x = x :: n :: ns := by
        unfold insS
        rw [below_nil_of (fun y hy => ?_)]
        · rfl
        · rcases List.mem_cons.mp hy with rfl | hy
          · (first | lia | omega)
          · have := h1 y hy; (first | lia | omega)
      rw [e]
      refine List.pairwise_cons.mpr ⟨fun y hy => ?_, h⟩
      rcases List.mem_cons.mp hy with rfl | hy
      · (first | lia | omega)
      · have := h1 y hy; (first | lia | omega)
theorem ins_ints {vs : List Value} {ns : List Int} {x : Int} {u : Tok} (hI : IntsAre vs ns) : IntsAre (kl_ins vs (below ns x) (.int x u)) (insS ns x) := by
  have hb : below ns x ≤ ns.length := List.length_filter_le ..
  have hl := hI.length
  have e : (if ((below ns x : Nat) : Int) < 0 then (((below ns x : Nat) : Int) + (vs.length : Int)).toNat else min ((below ns x : Nat) : Int).toNat vs.length) = below ns x := by
    rw [if_neg (by (first | lia | omega))]; (first | lia | omega)
  unfold kl_ins insS
  rw [e]
  exact (hI.take _).append (.cons x u (hI.drop _))

section
variable {h₀ : Heap} {L D : Addr} {m : Str → Option Value} {news : List (Addr × Obj)} {news' : List Value → List (Addr × Obj)} {s : Shared} {A : Around}
theorem insort_K {w : World} {loose : List Str} {mean : ExcName → Option Value} {mg mb : Str → Option Value} {vs : List Value} {n : Nat} {ns : List Int} {x : Int} {u : Tok} {Q E : Value → Shared → Prop}
    (F : Fr h₀ L s.heap m) (N : News h₀ L s.heap news) (U : ∀ ws, Upd D (PySem.W.listOf vs.toArray n) (PySem.W.listOf ws.toArray (n + 1)) news (news' ws)) (X : (Mine.hd.heap_39 w.params).In h₀) (T : Top Mine.hd.view_39 loose mean mg mb h₀)
    (hI : IntsAre vs ns) (hs : ns.Pairwise (· ≤ ·)) (hz : ns.length ≤ 1000) (hh : A.handled = none) (hd : A.depth + 6 < recursionLimit) (hu : A.units + 60 < cLine)
    (h : ∀ ws h' k, Fr h₀ L h' m → News h₀ L h' (news' ws) → IntsAre ws (insS ns x) → (insS ns x).Pairwise (· ≤ ·) → (insS ns x).length = ns.length + 1 → Q .none { s with heap := h', toks := k }) :
    wpAny (model Challenge.rw_ic0001_01.row.toRowW.prog w) A (call (.ref 30) [.ref D, .int x u]) Q E s := by
  obtain ⟨hd', dp, fr, gd, un⟩ := A
  cases hh
  obtain ⟨pre, post, e1, e2, a, b⟩ := (U (kl_ins vs (below ns x) (.int x u))).split
  have N1 := N
  rw [e1] at N1
  have z := N1 (D, PySem.W.listOf vs.toArray n) (List.mem_append.mpr (.inr (.head _)))
  refine insort_tells w loose mean mg mb D vs n ns x u hI hs hz dp un fr gd h₀ s Q E (fun b o e => F.keep b o e) X T z.2.2 z.1 hd hu fun h' tk' keep hD => ?_
  have ne : ∀ b o, h₀.get? b = some o → b ≠ D := fun b o e q => by rw [q, z.2.2] at e; cases e
  refine h (kl_ins vs (below ns x) (.int x u)) h' tk' ?_ ?_ (ins_ints hI) (insS_sorted hs) (insS_length ns x)
  · obtain ⟨oL, x1, x2, hL, x3⟩ := F.ns
    exact ⟨⟨oL, x1, x2, keep _ _ (Ne.symm z.2.1) hL, x3⟩, fun b o e => keep b o (ne b o e) (F.keep b o e), F.above⟩
  · rw [e2]
    intro q hq
    rcases List.mem_append.mp hq with hq | hq
    · have y := N1 q (List.mem_append.mpr (.inl hq))
      exact ⟨keep _ _ (a q hq) y.1, y.2⟩
    · rcases List.mem_cons.mp hq with rfl | hq
      · exact ⟨hD, z.2⟩
      · have y := N1 q (List.mem_append.mpr (.inr (.tail _ hq)))
        exact ⟨keep _ _ (b q hq) y.1, y.2⟩
end

/- permutations of the numbers below n, and their classes -/
def PermOn (n : Nat) (f : Nat → Nat) : Prop := (∀ i, i < n → f i < n) ∧ ∀ i j, i < n → j < n → f i = f j → i = j
def it (f : Nat → Nat) : Nat → Nat → Nat
  | 0, x => x
  | k + 1, x => f (it f k x)
theorem it_add (f : Nat → Nat) (a : Nat) : ∀ (b x : Nat), it f (b + a) x = it f b (it f a x)
  | 0, x => by rw [Nat.zero_add]; rfl
  | b + 1, x => by
    rw [show b + 1 + a = (b + a) + 1 by (first | lia | omega)]
    show f (it f (b + a) x) = f (it f b (it f a x))
    rw [it_add f a b x]
theorem it_lt {n : Nat} {f : Nat → Nat} (h : PermOn n f) : ∀ (k x : Nat), x < n → it f k x < n
  | 0, _, hx => hx
  | k + 1, x, hx => h.1 _ (it_lt h k x hx)
theorem it_inj {n : Nat} {f : Nat → Nat} (h : PermOn n f) : ∀ (k x y : Nat), x < n → y < n → it f k x = it f k y → x = y
  | 0, _, _, _, _, e => e
  | k + 1, x, y, hx, hy, e => it_inj h k x y hx hy (h.2 _ _ (it_lt h k x hx) (it_lt h k y hy) e)
theorem nodup_le : ∀ (n : Nat) (l : List Nat), l.Nodup → (∀ x ∈ l, x < n) → l.length ≤ n
  | 0, l, _, h => by
    cases l with
    | nil => exact Nat.le_refl _
    | cons a l => exact absurd (h a List.mem_cons_self) (Nat.not_lt_zero _)
  | n + 1, l, hd, h => by
    have h1 := nodup_le n (l.erase n) (hd.erase n) fun x hx => by
      have hx' := (hd.mem_erase_iff).mp hx
      have := h x hx'.2
      (first | lia | omega)
    have h2 := List.length_erase (a := n) (l := l)
    split at h2 <;> (first | lia | omega)
theorem period {n : Nat} {f : Nat → Nat} (h : PermOn n f) {x : Nat} (hx : x < n) : ∃ k, 0 < k ∧ k ≤ n ∧ it f k x = x := by
  refine Classical.byContradiction fun hno => ?_
  have key : ((List.range (n + 1)).map fun k => it f k x).Nodup := by
    rw [List.Nodup, List.pairwise_map]
    refine List.Pairwise.imp_of_mem ?_ (List.pairwise_lt_range (n := n + 1))
    intro i j hi hj hij e
    have hj := List.mem_range.mp hj
    refine hno ⟨j - i, by (first | lia | omega), by (first | lia | omega), ?_⟩
    have e2 : it f i (it f (j - i) x) = it f i x := by
      rw [← it_add, show i + (j - i) = j by (first | lia | omega)]; exact e.symm
    exact it_inj h i _ _ (it_lt h _ x hx) hx e2
  have := nodup_le n _ key (fun y hy => by
    obtain ⟨k, _, rfl⟩ := List.mem_map.mp hy
    exact it_lt h k x hx)
  rw [List.length_map, List.length_range] at this
  (first | lia | omega)
theorem least {P : Nat → Prop} {k : Nat} (h : P k) : ∃ k, P k ∧ ∀ j, j < k → ¬ P j := by
  refine Nat.strongRecOn (motive := fun k => P k → ∃ k, P k ∧ ∀ j, j < k → ¬ P j) k (fun k ih h => ?_) h
  by_cases hk : ∃ j, j < k ∧ P j
  · obtain ⟨j, hj, hp⟩ := hk
    exact ih j hj hp
  · exact ⟨k, h, fun j hj hp => hk ⟨j, hj, hp⟩⟩
theorem it_mul {f : Nat → Nat} {p x : Nat} (h : it f p x = x) : ∀ q, it f (p * q) x = x
  | 0 => rfl
  | q + 1 => by rw [Nat.mul_succ, it_add, h, it_mul h q]
theorem it_mod {f : Nat → Nat} {p x : Nat} (h : it f p x = x) (k : Nat) : it f k x = it f (k % p) x := by
  have e : k = k % p + p * (k / p) := by have := Nat.div_add_mod k p; (first | lia | omega)
  rw [e, it_add, it_mul h, ← e]

inductive Eqv (G : Nat → Nat → Prop) : Nat → Nat → Prop
  | rel {x y} : G x y → Eqv G x y
  | refl (x) : Eqv G x x
  | symm {x y} : Eqv G x y → Eqv G y x
  | trans {x y z} : Eqv G x y → Eqv G y z → Eqv G x z
theorem Eqv.mono {G H : Nat → Nat → Prop} (h : ∀ x y, G x y → Eqv H x y) {x y : Nat} (e : Eqv G x y) : Eqv H x y := by
  induction e with
  | rel g => exact h _ _ g
  | refl => exact .refl _
  | symm _ ih => exact ih.symm
  | trans _ _ a b => exact a.trans b
structure Equ (R : Nat → Nat → Prop) : Prop where
  refl : ∀ x, R x x
  symm : ∀ {x y}, R x y → R y x
  trans : ∀ {x y z}, R x y → R y z → R x z
theorem Eqv.equ (G : Nat → Nat → Prop) : Equ (Eqv G) := ⟨.refl, .symm, .trans⟩

def stp (n : Nat) (f : Nat → Nat) (x y : Nat) : Prop := x < n ∧ y = f x
/-- in the same round -/
def Cyc (n : Nat) (f : Nat → Nat) : Nat → Nat → Prop := Eqv (stp n f)
theorem cyc_it {n : Nat} {f : Nat → Nat} (h : PermOn n f) {x y : Nat} (e : Cyc n f x y) : (x < n ↔ y < n) ∧ (x < n → ∃ k, y = it f k x) := by
  induction e with
  | rel g =>
    obtain ⟨hx, rfl⟩ := g
    exact ⟨⟨fun _ => h.1 _ hx, fun _ => hx⟩, fun _ => ⟨1, rfl⟩⟩
  | refl x => exact ⟨Iff.rfl, fun _ => ⟨0, rfl⟩⟩
  | @symm x y e ih =>
    refine ⟨ih.1.symm, fun hy => ?_⟩
    have hx := ih.1.mpr hy
    obtain ⟨k, rfl⟩ := ih.2 hx
    obtain ⟨p, hp, _, hpx⟩ := period h hx
    have hk : k ≤ p * k := Nat.le_mul_of_pos_left k hp
    refine ⟨p * k - k, ?_⟩
    rw [← it_add, show p * k - k + k = p * k by (first | lia | omega), it_mul hpx]
  | @trans x y z _ _ a b =>
    refine ⟨a.1.trans b.1, fun hx => ?_⟩
    obtain ⟨k, rfl⟩ := a.2 hx
    obtain ⟨l, rfl⟩ := b.2 (a.1.mp hx)
    exact ⟨l + k, (it_add f k l x).symm⟩
theorem it_cyc {n : Nat} {f : Nat → Nat} (h : PermOn n f) {x : Nat} (hx : x < n) : ∀ k, Cyc n f x (it f k x)
  | 0 => .refl _
  | k + 1 => (it_cyc h hx k).trans (.rel ⟨it_lt h k x hx, rfl⟩)

/- counting classes -/
structure Sys (D : Nat → Prop) (R : Nat → Nat → Prop) (S : List Nat) : Prop where
  dom : ∀ s ∈ S, D s
  apart : S.Pairwise fun a b => ¬ R a b
  all : ∀ x, D x → ∃ s ∈ S, R s x
theorem sys_le {R : Nat → Nat → Prop} (E : Equ R) : ∀ (S T : List Nat), S.Pairwise (fun a b => ¬ R a b) → (∀ s ∈ S, ∃ t ∈ T, R s t) → S.length ≤ T.length
  | [], _, _, _ => Nat.zero_le _
  | s :: S, T, hp, h => by
    obtain ⟨h1, h2⟩ := List.pairwise_cons.mp hp
    obtain ⟨t, ht, hst⟩ := h s List.mem_cons_self
    have := sys_le E S (T.erase t) h2 fun u hu => by
      obtain ⟨v, hv, huv⟩ := h u (List.mem_cons_of_mem _ hu)
      refine ⟨v, ?_, huv⟩
      refine (List.mem_erase_of_ne fun e => ?_).mpr hv
      subst e
      exact h1 u hu (E.trans hst (E.symm huv))
    rw [List.length_erase_of_mem ht] at this
    have h0 : 0 < T.length := List.length_pos_of_mem ht
    rw [List.length_cons]
    (first | lia | omega)
theorem sys_len {D : Nat → Prop} {R : Nat → Nat → Prop} (E : Equ R) {S T : List Nat} (hS : Sys D R S) (hT : Sys D R T) : S.length = T.length :=
  Nat.le_antisymm (sys_le E S T hS.apart fun s hs => by
      obtain ⟨t, ht, e⟩ := hT.all s (hS.dom s hs)
      exact ⟨t, ht, E.symm e⟩)
    (sys_le E T S hT.apart fun s hs => by
      obtain ⟨t, ht, e⟩ := hS.all s (hT.dom s hs)
      exact ⟨t, ht, E.symm e⟩)
theorem sys_map {D D' : Nat → Prop} {R R' : Nat → Nat → Prop} (g : Nat → Nat) (h1 : ∀ x, D x → D' (g x)) (h2 : ∀ x y, D x → D y → R' (g x) (g y) → R x y) (h2' : ∀ x y, D x → D y → R x y → R' (g x) (g y)) (E' : Equ R') (h3 : ∀ y, D' y → ∃ x, D x ∧ R' (g x) y) {S : List Nat} (hS : Sys D R S) :
    Sys D' R' (S.map g) where
  dom := fun s hs => by
    obtain ⟨x, hx, rfl⟩ := List.mem_map.mp hs
    exact h1 x (hS.dom x hx)
  apart := by
    rw [List.pairwise_map]
    exact hS.apart.imp_of_mem fun ha hb hn e => hn (h2 _ _ (hS.dom _ ha) (hS.dom _ hb) e)
  all := fun y hy => by
    obtain ⟨x, hx, e⟩ := h3 y hy
    obtain ⟨s, hs, e'⟩ := hS.all x hx
    exact ⟨g s, List.mem_map.mpr ⟨s, hs, rfl⟩, E'.trans (h2' _ _ (hS.dom s hs) hx e') e⟩
theorem sys_ex {R : Nat → Nat → Prop} (E : Equ R) (n : Nat) : ∃ S, Sys (fun x => x < n) R S := by
  induction n with
  | zero => exact ⟨[], ⟨(fun _ h => nomatch h), .nil, fun x hx => absurd hx (Nat.not_lt_zero x)⟩⟩
  | succ n ih =>
    obtain ⟨S, hS⟩ := ih
    by_cases h : ∃ s ∈ S, R s n
    · refine ⟨S, ⟨fun s hs => Nat.lt_succ_of_lt (hS.dom s hs), hS.apart, fun x hx => ?_⟩⟩
      rcases Nat.lt_succ_iff_lt_or_eq.mp hx with hx | rfl
      · exact hS.all x hx
      · exact h
    · refine ⟨n :: S, ⟨fun s hs => ?_, List.pairwise_cons.mpr ⟨fun s hs e => h ⟨s, hs, E.symm e⟩, hS.apart⟩, fun x hx => ?_⟩⟩
      · rcases List.mem_cons.mp hs with rfl | hs
        · exact Nat.lt_succ_self _
        · exact Nat.lt_succ_of_lt (hS.dom s hs)
      · rcases Nat.lt_succ_iff_lt_or_eq.mp hx with hx | rfl
        · obtain ⟨s, hs, e⟩ := hS.all x hx
          exact ⟨s, List.mem_cons_of_mem _ hs, e⟩
        · exact ⟨x, List.mem_cons_self, E.refl x⟩
/-- so many classes below n -/
noncomputable def num (n : Nat) (G : Nat → Nat → Prop) : Nat := (Classical.choose (sys_ex (Eqv.equ G) n)).length
theorem num_of {n : Nat} {G : Nat → Nat → Prop} {S : List Nat} (h : Sys (fun x => x < n) (Eqv G) S) : num n G = S.length :=
  sys_len (Eqv.equ G) (Classical.choose_spec (sys_ex (Eqv.equ G) n)) h
theorem num_sys (n : Nat) (G : Nat → Nat → Prop) : ∃ S, Sys (fun x => x < n) (Eqv G) S ∧ num n G = S.length := ⟨_, Classical.choose_spec (sys_ex (Eqv.equ G) n), rfl⟩
theorem num_congr {n : Nat} {G H : Nat → Nat → Prop} (h : ∀ x y, Eqv G x y ↔ Eqv H x y) : num n G = num n H := by
  obtain ⟨S, hS, e⟩ := num_sys n G
  rw [e]
  refine (num_of ⟨hS.dom, hS.apart.imp fun hn e => hn ((h _ _).mpr e), fun x hx => ?_⟩).symm
  obtain ⟨s, hs, e⟩ := hS.all x hx
  exact ⟨s, hs, (h _ _).mp e⟩

/- one more tie -/
def ext (G : Nat → Nat → Prop) (a b x y : Nat) : Prop := G x y ∨ (x = a ∧ y = b)
theorem ext_iff {G : Nat → Nat → Prop} {a b x y : Nat} : Eqv (ext G a b) x y ↔ Eqv G x y ∨ (Eqv G x a ∧ Eqv G b y) ∨ (Eqv G x b ∧ Eqv G a y) := by
  constructor
  · intro e
    induction e with
    | rel g =>
      rcases g with g | ⟨rfl, rfl⟩
      · exact .inl (.rel g)
      · exact .inr (.inl ⟨.refl _, .refl _⟩)
    | refl => exact .inl (.refl _)
    | symm _ ih =>
      rcases ih with h | ⟨h, h'⟩ | ⟨h, h'⟩
      · exact .inl h.symm
      · exact .inr (.inr ⟨h'.symm, h.symm⟩)
      · exact .inr (.inl ⟨h'.symm, h.symm⟩)
    | trans _ _ p q =>
      rcases p with p | ⟨p, p'⟩ | ⟨p, p'⟩ <;> rcases q with q | ⟨q, q'⟩ | ⟨q, q'⟩
      · exact .inl (p.trans q)
      · exact .inr (.inl ⟨p.trans q, q'⟩)
      · exact .inr (.inr ⟨p.trans q, q'⟩)
      · exact .inr (.inl ⟨p, p'.trans q⟩)
      · exact .inr (.inl ⟨p, q'⟩)
      · exact .inl (p.trans q')
      · exact .inr (.inr ⟨p, p'.trans q⟩)
      · exact .inl (p.trans q')
      · exact .inr (.inr ⟨p, q'⟩)
  · have m : ∀ x y, Eqv G x y → Eqv (ext G a b) x y := fun x y e => e.mono fun _ _ g => .rel (.inl g)
    have ab : Eqv (ext G a b) a b := .rel (.inr ⟨rfl, rfl⟩)
    rintro (h | ⟨h, h'⟩ | ⟨h, h'⟩)
    · exact m _ _ h
    · exact (m _ _ h).trans (ab.trans (m _ _ h'))
    · exact (m _ _ h).trans (ab.symm.trans (m _ _ h'))
theorem num_ext_like {n : Nat} {G : Nat → Nat → Prop} {a b : Nat} (h : Eqv G a b) : num n (ext G a b) = num n G := by
  refine num_congr fun x y => ext_iff.trans ⟨?_, .inl⟩
  rintro (e | ⟨e, e'⟩ | ⟨e, e'⟩)
  · exact e
  · exact e.trans (h.trans e')
  · exact e.trans (h.symm.trans e')
theorem num_ext_unlike {n : Nat} {G : Nat → Nat → Prop} {a b : Nat} (ha : a < n) (hb : b < n) (h : ¬ Eqv G a b) : num n (ext G a b) + 1 = num n G := by
  obtain ⟨S, hS, e⟩ := num_sys n G
  obtain ⟨sa, hsa, ea⟩ := hS.all a ha
  obtain ⟨sb, hsb, eb⟩ := hS.all b hb
  have hne : sa ≠ sb := fun q => h (ea.symm.trans (q ▸ eb))
  have hnd : S.Nodup := hS.apart.imp fun {u v} (hn : ¬ Eqv G u v) (q : u = v) => hn (q ▸ Eqv.refl u)
  have like : ∀ s ∈ S, ∀ t ∈ S, Eqv G s t → s = t := by
    intro s hs t ht e
    refine Classical.byContradiction fun q => ?_
    have key : ∀ {l : List Nat}, l.Pairwise (fun a b => ¬ Eqv G a b) → s ∈ l → t ∈ l → False := by
      intro l
      induction l with
      | nil => intro _ h; exact nomatch h
      | cons u l ih =>
        intro hp h1 h2
        obtain ⟨p1, p2⟩ := List.pairwise_cons.mp hp
        rcases List.mem_cons.mp h1 with h1 | h1 <;> rcases List.mem_cons.mp h2 with h2 | h2
        · exact q (h1.trans h2.symm)
        · exact p1 _ h2 (h1 ▸ e)
        · exact p1 _ h1 (h2 ▸ e.symm)
        · exact ih p2 h1 h2
    exact key hS.apart hs ht
  have hT : Sys (fun x => x < n) (Eqv (ext G a b)) (S.erase sb) := by
    refine ⟨fun s hs => hS.dom s (List.mem_of_mem_erase hs), ?_, fun x hx => ?_⟩
    · refine (hS.apart.sublist List.erase_sublist).imp_of_mem fun {s t} hs ht hn e => ?_
      have hs' := (hnd.mem_erase_iff).mp hs
      have ht' := (hnd.mem_erase_iff).mp ht
      rcases ext_iff.mp e with e | ⟨e, e'⟩ | ⟨e, e'⟩
      · exact hn e
      · exact ht'.1 (like t ht'.2 sb hsb (e'.symm.trans eb.symm))
      · exact hs'.1 (like s hs'.2 sb hsb (e.trans eb.symm))
    · obtain ⟨s, hs, e⟩ := hS.all x hx
      by_cases q : s = sb
      · subst q
        refine ⟨sa, (hnd.mem_erase_iff).mpr ⟨hne, hsa⟩, ext_iff.mpr (.inr (.inl ⟨ea, ?_⟩))⟩
        exact eb.symm.trans e
      · exact ⟨s, (hnd.mem_erase_iff).mpr ⟨q, hs⟩, ext_iff.mpr (.inl e)⟩
  rw [num_of hT, e, List.length_erase_of_mem hsb]
  have : 0 < S.length := List.length_pos_of_mem hsb
  (first | lia | omega)

def sw (a b x : Nat) : Nat := if x = a then b else if x = b then a else x
def tr (f : Nat → Nat) (a b : Nat) : Nat → Nat := fun x => f (sw a b x)
theorem sw_sw (a b x : Nat) : sw a b (sw a b x) = x := by
  unfold sw
  by_cases h : x = a
  · subst h; by_cases q : b = x
    · subst q; simp
    · simp [q]
  · by_cases q : x = b
    · subst q; simp [h]
    · simp [h, q]
theorem sw_lt {n a b x : Nat} (ha : a < n) (hb : b < n) (hx : x < n) : sw a b x < n := by
  unfold sw; split
  · exact hb
  · split
    · exact ha
    · exact hx
theorem perm_tr {n : Nat} {f : Nat → Nat} (h : PermOn n f) {a b : Nat} (ha : a < n) (hb : b < n) : PermOn n (tr f a b) :=
  ⟨fun i hi => h.1 _ (sw_lt ha hb hi), fun i j hi hj e => by
    have := h.2 _ _ (sw_lt ha hb hi) (sw_lt ha hb hj) e
    have := congrArg (sw a b) this
    rwa [sw_sw, sw_sw] at this⟩
theorem tr_tr (f : Nat → Nat) (a b : Nat) : tr (tr f a b) a b = f := by
  funext x; unfold tr; rw [sw_sw]

theorem path {n : Nat} {f : Nat → Nat} (h : PermOn n f) {a b : Nat} (hb : b < n) : ∃ k, 0 < k ∧ (it f k b = a ∨ it f k b = b) ∧ (∀ j, 0 < j → j < k → it f j b ≠ a ∧ it f j b ≠ b) ∧ ∀ j, 0 < j → j ≤ k → it (tr f a b) j a = it f j b := by
  obtain ⟨p, hp, _, hpx⟩ := period h hb
  obtain ⟨k, ⟨hk, hk'⟩, hmin⟩ := least (P := fun k => 0 < k ∧ (it f k b = a ∨ it f k b = b)) (k := p) ⟨hp, .inr hpx⟩
  have hm : ∀ j, 0 < j → j < k → it f j b ≠ a ∧ it f j b ≠ b := fun j h0 h1 => ⟨fun e => hmin j h1 ⟨h0, .inl e⟩, fun e => hmin j h1 ⟨h0, .inr e⟩⟩
  refine ⟨k, hk, hk', hm, ?_⟩
  intro j
  induction j with
  | zero => intro h0; exact absurd h0 (Nat.lt_irrefl 0)
  | succ j ih =>
    intro _ hj
    by_cases hj0 : j = 0
    · subst hj0
      show f (sw a b a) = f b
      simp [sw]
    · have e := ih (by (first | lia | omega)) (by (first | lia | omega))
      show tr f a b (it (tr f a b) j a) = f (it f j b)
      obtain ⟨n1, n2⟩ := hm j (by (first | lia | omega)) (by (first | lia | omega))
      rw [e]
      show f (sw a b (it f j b)) = _
      simp [sw, n1, n2]
theorem tr_joins {n : Nat} {f : Nat → Nat} (h : PermOn n f) {a b : Nat} (ha : a < n) (hb : b < n) (hn : ¬ Cyc n f a b) : Cyc n (tr f a b) a b := by
  obtain ⟨k, hk, hab, _, hp⟩ := path h (a := a) hb
  have e := hp k hk (Nat.le_refl _)
  rcases hab with q | q
  · exact absurd (q ▸ it_cyc h hb k : Cyc n f b a).symm hn
  · have := it_cyc (perm_tr h ha hb) ha k
    rw [e, q] at this
    exact this
theorem tr_parts {n : Nat} {f : Nat → Nat} (h : PermOn n f) {a b : Nat} (ha : a < n) (hb : b < n) (hne : a ≠ b) (hl : Cyc n f a b) : ¬ Cyc n (tr f a b) a b := by
  obtain ⟨k, hk, hab, hm, hp⟩ := path h (a := a) hb
  obtain ⟨q, hq⟩ := (cyc_it h hl.symm).2 hb
  have hka : it f k b = a := by
    rcases hab with e | e
    · exact e
    · exfalso
      rw [it_mod e] at hq
      have hlt := Nat.mod_lt q hk
      by_cases h0 : q % k = 0
      · rw [h0] at hq; exact hne hq
      · exact (hm _ (by (first | lia | omega)) hlt).1 hq.symm
  have e := hp k hk (Nat.le_refl _)
  rw [hka] at e
  intro hc
  obtain ⟨r, hr⟩ := (cyc_it (perm_tr h ha hb) hc).2 ha
  rw [it_mod e] at hr
  have hlt := Nat.mod_lt r hk
  by_cases h0 : r % k = 0
  · rw [h0] at hr; exact hne hr.symm
  · rw [hp _ (by (first | lia | omega)) (by (first | lia | omega))] at hr
    exact (hm _ (by (first | lia | omega)) hlt).2 hr.symm

theorem tr_unlike {n : Nat} {f : Nat → Nat} (h : PermOn n f) {a b : Nat} (ha : a < n) (hb : b < n) (hn : ¬ Cyc n f a b) : num n (stp n (tr f a b)) + 1 = num n (stp n f) := by
  rw [← num_ext_unlike ha hb hn]
  congr 1
  have hj := tr_joins h ha hb hn
  refine num_congr fun x y => ⟨fun e => ?_, fun e => ?_⟩
  · refine e.mono fun x y g => ?_
    obtain ⟨hx, rfl⟩ := g
    have ab : Eqv (ext (stp n f) a b) a b := .rel (.inr ⟨rfl, rfl⟩)
    have st : ∀ z, z < n → Eqv (ext (stp n f) a b) z (f z) := fun z hz => .rel (.inl ⟨hz, rfl⟩)
    show Eqv _ x (f (sw a b x))
    unfold sw
    split
    · rename_i q; subst q; exact ab.trans (st b hb)
    · split
      · rename_i q; subst q; exact ab.symm.trans (st a ha)
      · exact st x hx
  · refine e.mono fun x y g => ?_
    rcases g with ⟨hx, rfl⟩ | ⟨rfl, rfl⟩
    · have st : ∀ z, z < n → Eqv (stp n (tr f a b)) z (f (sw a b z)) := fun z hz => .rel ⟨hz, rfl⟩
      by_cases q : x = a
      · subst q
        have := st b hb
        simp only [sw] at this
        by_cases q' : b = x
        · subst q'; simpa using this
        · simp only [q', if_false, if_true] at this
          exact hj.trans this
      · by_cases q' : x = b
        · subst q'
          have := st a ha
          simp only [sw, if_true] at this
          exact Eqv.trans (Eqv.symm hj) this
        · have := st x hx
          simp only [sw, q, q', if_false] at this
          exact this
    · exact hj
theorem tr_like {n : Nat} {f : Nat → Nat} (h : PermOn n f) {a b : Nat} (ha : a < n) (hb : b < n) (hne : a ≠ b) (hl : Cyc n f a b) : num n (stp n (tr f a b)) = num n (stp n f) + 1 := by
  have := tr_unlike (perm_tr h ha hb) ha hb (tr_parts h ha hb hne hl)
  rw [tr_tr] at this
  exact this.symm

/- the ties -/
def flip (x : Nat) : Nat := if x % 2 = 0 then x + 1 else x - 1
theorem flip_flip (x : Nat) : flip (flip x) = x := by
  unfold flip; split <;> split <;> (first | lia | omega)
theorem flip_lt {m x : Nat} (h : x < 2 * m) : flip x < 2 * m := by
  unfold flip; split <;> (first | lia | omega)
def al (k x : Nat) : Nat := if x < 2 * k then flip x else x
def pg (n : Nat) (f : Nat → Nat) (k x y : Nat) : Prop := stp n f x y ∨ ∃ j, j < k ∧ x = 2 * j ∧ y = 2 * j + 1
theorem al_step (f : Nat → Nat) (k : Nat) : (fun x => f (al (k + 1) x)) = tr (fun x => f (al k x)) (2 * k) (2 * k + 1) := by
  funext x
  show f (al (k + 1) x) = f (al k (sw (2 * k) (2 * k + 1) x))
  congr 1
  unfold al sw flip
  repeat' split
  all_goals (first | lia | omega)
theorem al_al (k x : Nat) : al k (al k x) = x := by
  unfold al flip
  repeat' split
  all_goals (first | lia | omega)
theorem al_lt {n k x : Nat} (hk : 2 * k ≤ n) (hx : x < n) : al k x < n := by
  unfold al flip
  repeat' split
  all_goals (first | lia | omega)
theorem perm_al {n k : Nat} {f : Nat → Nat} (h : PermOn n f) (hk : 2 * k ≤ n) : PermOn n fun x => f (al k x) :=
  ⟨fun i hi => h.1 _ (al_lt hk hi), fun i j hi hj e => by
    have := congrArg (al k) (h.2 _ _ (al_lt hk hi) (al_lt hk hj) e)
    rwa [al_al, al_al] at this⟩
theorem pg_step (n : Nat) (f : Nat → Nat) (k : Nat) : num n (pg n f (k + 1)) = num n (ext (pg n f k) (2 * k) (2 * k + 1)) := by
  refine num_congr fun x y => ⟨fun e => e.mono fun x y g => ?_, fun e => e.mono fun x y g => ?_⟩
  · rcases g with g | ⟨j, hj, rfl, rfl⟩
    · exact .rel (.inl (.inl g))
    · by_cases q : j = k
      · subst q; exact .rel (.inr ⟨rfl, rfl⟩)
      · exact .rel (.inl (.inr ⟨j, by (first | lia | omega), rfl, rfl⟩))
  · rcases g with (g | ⟨j, hj, rfl, rfl⟩) | ⟨rfl, rfl⟩
    · exact .rel (.inl g)
    · exact .rel (.inr ⟨j, by (first | lia | omega), rfl, rfl⟩)
    · exact .rel (.inr ⟨k, by (first | lia | omega), rfl, rfl⟩)
theorem flip_pg {n : Nat} {f : Nat → Nat} {k x : Nat} (hx : x < 2 * k) : Eqv (pg n f k) x (flip x) := by
  unfold flip
  by_cases q : x % 2 = 0
  · rw [if_pos q]
    exact .rel (.inr ⟨x / 2, by (first | lia | omega), by (first | lia | omega), by (first | lia | omega)⟩)
  · rw [if_neg q]
    exact .symm (.rel (.inr ⟨x / 2, by (first | lia | omega), by (first | lia | omega), by (first | lia | omega)⟩))
theorem cyc_pg {n : Nat} {f : Nat → Nat} {k : Nat} (hk : 2 * k ≤ n) {x y : Nat} (e : Cyc n (fun x => f (al k x)) x y) : Eqv (pg n f k) x y := by
  refine e.mono fun x y g => ?_
  obtain ⟨hx, rfl⟩ := g
  show Eqv _ x (f (al k x))
  have h1 : Eqv (pg n f k) x (al k x) := by
    unfold al
    split
    · exact flip_pg (by assumption)
    · exact .refl _
  exact h1.trans (.rel (.inl ⟨al_lt hk hx, rfl⟩))
theorem genus {n : Nat} {f : Nat → Nat} (h : PermOn n f) : ∀ k, 2 * k ≤ n → ∃ g, 2 * num n (pg n f k) + k = num n (stp n f) + num n (stp n fun x => f (al k x)) + 2 * g
  | 0, _ => by
    refine ⟨0, ?_⟩
    have e : num n (pg n f 0) = num n (stp n f) := num_congr fun x y => ⟨fun e => e.mono fun x y g => by
      rcases g with g | ⟨j, hj, _⟩
      · exact .rel g
      · exact absurd hj (Nat.not_lt_zero _), fun e => e.mono fun x y g => .rel (.inl g)⟩
    have e2 : (fun x => f (al 0 x)) = f := by
      funext x
      show f (al 0 x) = f x
      simp [al]
    rw [e, e2]
    (first | lia | omega)
  | k + 1, hk => by
    obtain ⟨g, hg⟩ := genus h k (by (first | lia | omega))
    have hτ := perm_al h (k := k) (by (first | lia | omega))
    have ha : 2 * k < n := by (first | lia | omega)
    have hb : 2 * k + 1 < n := by (first | lia | omega)
    rw [al_step, pg_step]
    by_cases hl : Cyc n (fun x => f (al k x)) (2 * k) (2 * k + 1)
    · rw [tr_like hτ ha hb (by (first | lia | omega)) hl, num_ext_like (cyc_pg (by (first | lia | omega)) hl)]
      exact ⟨g, by (first | lia | omega)⟩
    · have e1 := tr_unlike hτ ha hb hl
      by_cases hp : Eqv (pg n f k) (2 * k) (2 * k + 1)
      · rw [num_ext_like hp]
        exact ⟨g + 1, by (first | lia | omega)⟩
      · have e2 := num_ext_unlike ha hb hp
        exact ⟨g, by (first | lia | omega)⟩

/- relabelled -/
theorem num_invol {n : Nat} {G H : Nat → Nat → Prop} (g : Nat → Nat) (hg : ∀ x, x < n → g x < n) (hgg : ∀ x, g (g x) = x) (h : ∀ x y, G x y → Eqv H (g x) (g y)) (h' : ∀ x y, H x y → Eqv G (g x) (g y)) : num n H = num n G := by
  obtain ⟨S, hS, e⟩ := num_sys n G
  rw [e]
  have m : ∀ {G H : Nat → Nat → Prop}, (∀ x y, G x y → Eqv H (g x) (g y)) → ∀ x y, Eqv G x y → Eqv H (g x) (g y) := by
    intro G H h x y e
    induction e with
    | rel k => exact h _ _ k
    | refl => exact .refl _
    | symm _ ih => exact ih.symm
    | trans _ _ a b => exact a.trans b
  rw [num_of (sys_map (D' := fun x => x < n) (R' := Eqv H) g hg (fun x y _ _ e => by have := m h' _ _ e; rwa [hgg, hgg] at this) (fun x y _ _ e => m h _ _ e) (Eqv.equ H) (fun y hy => ⟨g y, hg y hy, by rw [hgg]; exact .refl _⟩) hS), List.length_map]

theorem cyc_ext {n : Nat} {f : Nat → Nat} (h : PermOn n f) {a b : Nat} (ha : a < n) (hb : b < n) (hn : ¬ Cyc n f a b) {x y : Nat} (e : Eqv (ext (stp n f) a b) x y) : Cyc n (tr f a b) x y := by
  have hj := tr_joins h ha hb hn
  refine e.mono fun x y g => ?_
  rcases g with ⟨hx, rfl⟩ | ⟨rfl, rfl⟩
  · have st : ∀ z, z < n → Eqv (stp n (tr f a b)) z (f (sw a b z)) := fun z hz => .rel ⟨hz, rfl⟩
    by_cases q : x = a
    · subst q
      have := st b hb
      simp only [sw] at this
      by_cases q' : b = x
      · subst q'; simpa using this
      · simp only [q', if_false, if_true] at this
        exact hj.trans this
    · by_cases q' : x = b
      · subst q'
        have := st a ha
        simp only [sw, if_true] at this
        exact Eqv.trans (Eqv.symm hj) this
      · have := st x hx
        simp only [sw, q, q', if_false] at this
        exact this
  · exact hj
theorem ext_cyc {n : Nat} {f : Nat → Nat} {a b : Nat} (ha : a < n) (hb : b < n) {x y : Nat} (e : Cyc n (tr f a b) x y) : Eqv (ext (stp n f) a b) x y := by
  refine e.mono fun x y g => ?_
  obtain ⟨hx, rfl⟩ := g
  have ab : Eqv (ext (stp n f) a b) a b := .rel (.inr ⟨rfl, rfl⟩)
  have st : ∀ z, z < n → Eqv (ext (stp n f) a b) z (f z) := fun z hz => .rel (.inl ⟨hz, rfl⟩)
  show Eqv _ x (f (sw a b x))
  unfold sw
  split
  · rename_i q; subst q; exact ab.trans (st b hb)
  · split
    · rename_i q; subst q; exact ab.symm.trans (st a ha)
    · exact st x hx
theorem pre_ex {n : Nat} {f : Nat → Nat} (h : PermOn n f) {e : Nat} (he : e < n) : ∃ y, y < n ∧ f y = e := by
  obtain ⟨p, hp, _, hx⟩ := period h he
  obtain ⟨q, rfl⟩ : ∃ q, p = q + 1 := ⟨p - 1, by (first | lia | omega)⟩
  exact ⟨it f q e, it_lt h q e he, hx⟩

/-- taken out of its round -/
def byp (f : Nat → Nat) (e x : Nat) : Nat := if x = e then e else if f x = e then f e else f x
theorem byp_tr {n : Nat} {f : Nat → Nat} (h : PermOn n f) {e y : Nat} (he : e < n) (hy : y < n) (hf : f y = e) {x : Nat} (hx : x < n) : byp f e x = tr f e y x := by
  unfold byp tr sw
  by_cases q : x = e
  · subst q; simp [hf]
  · by_cases q' : x = y
    · subst q'; simp [q, hf]
    · have : f x ≠ e := fun r => q' (h.2 x y hx hy (r.trans hf.symm))
      simp [q, q', this]
theorem stp_congr {n : Nat} {f g : Nat → Nat} (h : ∀ x, x < n → f x = g x) : num n (stp n f) = num n (stp n g) :=
  num_congr fun x y => ⟨fun e => e.mono fun x y k => .rel ⟨k.1, by rw [← h x k.1]; exact k.2⟩, fun e => e.mono fun x y k => .rel ⟨k.1, by rw [h x k.1]; exact k.2⟩⟩
theorem cyc_congr {n : Nat} {f g : Nat → Nat} (h : ∀ x, x < n → f x = g x) {x y : Nat} (e : Cyc n f x y) : Cyc n g x y := e.mono fun x y k => .rel ⟨k.1, by rw [← h x k.1]; exact k.2⟩
theorem perm_congr {n : Nat} {f g : Nat → Nat} (h : ∀ x, x < n → f x = g x) (p : PermOn n f) : PermOn n g :=
  ⟨fun i hi => h i hi ▸ p.1 i hi, fun i j hi hj e => p.2 i j hi hj (by rw [h i hi, h j hj]; exact e)⟩

/- the graph without tie t -/
def gt (n : Nat) (f : Nat → Nat) (m t x y : Nat) : Prop := stp n f x y ∨ ∃ j, j < m ∧ j ≠ t ∧ x = 2 * j ∧ y = 2 * j + 1
theorem pg_gt {n m t : Nat} {f : Nat → Nat} (ht : t < m) : num n (pg n f m) = num n (ext (gt n f m t) (2 * t) (2 * t + 1)) := by
  refine num_congr fun x y => ⟨fun e => e.mono fun x y g => ?_, fun e => e.mono fun x y g => ?_⟩
  · rcases g with g | ⟨j, hj, rfl, rfl⟩
    · exact .rel (.inl (.inl g))
    · by_cases q : j = t
      · subst q; exact .rel (.inr ⟨rfl, rfl⟩)
      · exact .rel (.inl (.inr ⟨j, hj, q, rfl, rfl⟩))
  · rcases g with (g | ⟨j, hj, _, rfl, rfl⟩) | ⟨rfl, rfl⟩
    · exact .rel (.inl g)
    · exact .rel (.inr ⟨j, hj, rfl, rfl⟩)
    · exact .rel (.inr ⟨t, ht, rfl, rfl⟩)
theorem alone {G : Nat → Nat → Prop} {e : Nat} (h : ∀ x y, G x y → (x = e ↔ y = e)) {x y : Nat} (k : Eqv G x y) : x = e ↔ y = e := by
  induction k with
  | rel g => exact h _ _ g
  | refl => exact Iff.rfl
  | symm _ ih => exact ih.symm
  | trans _ _ a b => exact a.trans b

/- one end taken out: the rounds, the pieces without the tie -/
theorem byp_perm {n : Nat} {f : Nat → Nat} (h : PermOn n f) {e : Nat} (he : e < n) : PermOn n (byp f e) := by
  obtain ⟨y, hy, hf⟩ := pre_ex h he
  exact perm_congr (fun x hx => (byp_tr h he hy hf hx).symm) (perm_tr h he hy)
theorem byp_self (f : Nat → Nat) (e : Nat) : byp f e e = e := by simp [byp]
theorem byp_num {n : Nat} {f : Nat → Nat} (h : PermOn n f) {e : Nat} (he : e < n) (hne : f e ≠ e) : num n (stp n (byp f e)) = num n (stp n f) + 1 := by
  obtain ⟨y, hy, hf⟩ := pre_ex h he
  rw [stp_congr (fun x hx => byp_tr h he hy hf hx)]
  refine tr_like h he hy (fun q => hne (q ▸ hf)) ?_
  exact Eqv.symm (.rel ⟨hy, hf.symm⟩)
theorem byp_gt {n m t : Nat} {f : Nat → Nat} (h : PermOn n f) {e : Nat} (he : e < n) (het : e = 2 * t ∨ e = 2 * t + 1) (hne : f e ≠ e) : num n (gt n (byp f e) m t) = num n (gt n f m t) + 1 := by
  obtain ⟨y, hy, hf⟩ := pre_ex h he
  have hye : y ≠ e := fun q => hne (q ▸ hf)
  have hb : ∀ x, x < n → byp f e x = tr f e y x := fun x hx => byp_tr h he hy hf hx
  have hp := byp_perm h he
  have iso : ∀ x y, gt n (byp f e) m t x y → (x = e ↔ y = e) := by
    rintro x z (⟨hx, rfl⟩ | ⟨j, hj, hjt, rfl, rfl⟩)
    · constructor
      · rintro rfl; exact byp_self f x
      · intro q
        exact hp.2 x e hx he (q.trans (byp_self f e).symm)
    · (first | lia | omega)
  have nl : ¬ Eqv (gt n (byp f e) m t) e y := fun k => hye ((alone iso k).mp rfl)
  have nl' : ¬ Cyc n (byp f e) e y := fun k => nl (Eqv.mono (fun _ _ g => .rel (.inl g)) k)
  have back : ∀ x, x < n → tr (byp f e) e y x = f x := by
    intro x hx
    show byp f e (sw e y x) = f x
    rw [hb _ (sw_lt he hy hx)]
    show f (sw e y (sw e y x)) = f x
    rw [sw_sw]
  rw [← num_ext_unlike he hy nl]
  congr 1
  refine num_congr fun x z => ⟨fun k => k.mono fun x z g => ?_, fun k => k.mono fun x z g => ?_⟩
  · have up : ∀ x z, Cyc n f x z → Eqv (gt n f m t) x z := fun x z k => Eqv.mono (fun _ _ g => .rel (.inl g)) k
    rcases g with (g | g) | ⟨rfl, rfl⟩
    · refine up _ _ (cyc_congr back ?_)
      exact cyc_ext hp he hy nl' (.rel (.inl g))
    · exact .rel (.inr g)
    · exact (Eqv.rel (.inl ⟨hy, hf.symm⟩) : Eqv (gt n f m t) _ _).symm
  · rcases g with g | g
    · have k : Cyc n (tr (byp f e) e y) x z := cyc_congr (fun x hx => (back x hx).symm) (.rel g)
      refine (ext_cyc he hy k).mono fun x z g => ?_
      rcases g with g | g
      · exact .rel (.inl (.inl g))
      · exact .rel (.inr g)
    · exact .rel (.inl (.inr g))

/-- relabelled without the tie -/
def nm (t i : Nat) : Nat := if i < 2 * t then i else i + 2
def idx (t x : Nat) : Nat := if x < 2 * t then x else x - 2
def own2 (t x : Nat) : Prop := x = 2 * t ∨ x = 2 * t + 1
theorem idx_nm (t i : Nat) : idx t (nm t i) = i := by unfold idx nm; (repeat' split) <;> (first | lia | omega)
theorem nm_idx {t x : Nat} (h : ¬ own2 t x) : nm t (idx t x) = x := by unfold own2 at h; unfold idx nm; (repeat' split) <;> (first | lia | omega)
theorem nm_own (t i : Nat) : ¬ own2 t (nm t i) := by unfold own2 nm; split <;> (first | lia | omega)
theorem num_down {n t : Nat} (hn : 2 * t + 1 < n) {G H : Nat → Nat → Prop} (iso : ∀ x y, G x y → (own2 t x ↔ own2 t y)) (gh : ∀ x y, G x y → ¬ own2 t x → ¬ own2 t y → Eqv H (idx t x) (idx t y)) (hg : ∀ x y, H x y → Eqv G (nm t x) (nm t y)) :
    (Eqv G (2 * t) (2 * t + 1) → num n G = num (n - 2) H + 1) ∧ (¬ Eqv G (2 * t) (2 * t + 1) → num n G = num (n - 2) H + 2) := by
  obtain ⟨S, hS, e⟩ := num_sys (n - 2) H
  have m1 : ∀ x y, Eqv H x y → Eqv G (nm t x) (nm t y) := by
    intro x y k
    induction k with
    | rel g => exact hg _ _ g
    | refl => exact .refl _
    | symm _ ih => exact ih.symm
    | trans _ _ a b => exact a.trans b
  have m2 : ∀ x y, Eqv G x y → (own2 t x ↔ own2 t y) ∧ (¬ own2 t x → ¬ own2 t y → Eqv H (idx t x) (idx t y)) := by
    intro x y k
    induction k with
    | rel g => exact ⟨iso _ _ g, gh _ _ g⟩
    | refl => exact ⟨Iff.rfl, fun _ _ => .refl _⟩
    | symm _ ih => exact ⟨ih.1.symm, fun a b => (ih.2 b a).symm⟩
    | trans _ _ p q => exact ⟨p.1.trans q.1, fun a b => (p.2 a (fun c => a (p.1.mpr c))).trans (q.2 (fun c => a (p.1.mpr c)) b)⟩
  have h0 : own2 t (2 * t) := .inl rfl
  have h1 : own2 t (2 * t + 1) := .inr rfl
  have dom : ∀ s ∈ S.map (nm t), s < n := by
    intro s hs
    obtain ⟨i, hi, rfl⟩ := List.mem_map.mp hs
    have := hS.dom i hi
    unfold nm; split <;> (first | lia | omega)
  have far : ∀ x, own2 t x → ∀ s ∈ S.map (nm t), ¬ Eqv G x s := by
    intro x hx s hs k
    obtain ⟨i, hi, rfl⟩ := List.mem_map.mp hs
    exact nm_own t i ((m2 _ _ k).1.mp hx)
  have ap : (S.map (nm t)).Pairwise fun a b => ¬ Eqv G a b := by
    rw [List.pairwise_map]
    refine hS.apart.imp fun {a b} hab k => hab ?_
    have := (m2 _ _ k).2 (nm_own t a) (nm_own t b)
    rwa [idx_nm, idx_nm] at this
  have cov : ∀ x, x < n → ¬ own2 t x → ∃ s ∈ S.map (nm t), Eqv G s x := by
    intro x hx ho
    obtain ⟨s, hs, k⟩ := hS.all (idx t x) (by unfold own2 at ho; unfold idx; split <;> (first | lia | omega))
    refine ⟨nm t s, List.mem_map.mpr ⟨s, hs, rfl⟩, ?_⟩
    have := m1 _ _ k
    rwa [nm_idx ho] at this
  constructor
  · intro like
    rw [e, num_of (S := 2 * t :: S.map (nm t)) ⟨?_, List.pairwise_cons.mpr ⟨far _ h0, ap⟩, ?_⟩, List.length_cons, List.length_map]
    · intro s hs
      rcases List.mem_cons.mp hs with rfl | hs
      · show 2 * t < n; (first | lia | omega)
      · exact dom s hs
    · intro x hx
      by_cases ho : own2 t x
      · rcases ho with rfl | rfl
        · exact ⟨_, List.mem_cons_self, .refl _⟩
        · exact ⟨_, List.mem_cons_self, like⟩
      · obtain ⟨s, hs, k⟩ := cov x hx ho
        exact ⟨s, List.mem_cons_of_mem _ hs, k⟩
  · intro unlike
    rw [e, num_of (S := 2 * t :: (2 * t + 1) :: S.map (nm t)) ⟨?_, List.pairwise_cons.mpr ⟨?_, List.pairwise_cons.mpr ⟨far _ h1, ap⟩⟩, ?_⟩, List.length_cons, List.length_cons, List.length_map]
    · intro s hs
      rcases List.mem_cons.mp hs with rfl | hs
      · show 2 * t < n; (first | lia | omega)
      · rcases List.mem_cons.mp hs with rfl | hs
        · exact hn
        · exact dom s hs
    · intro s hs
      rcases List.mem_cons.mp hs with rfl | hs
      · exact unlike
      · exact far _ h0 s hs
    · intro x hx
      by_cases ho : own2 t x
      · rcases ho with rfl | rfl
        · exact ⟨_, List.mem_cons_self, .refl _⟩
        · exact ⟨_, List.mem_cons_of_mem _ List.mem_cons_self, .refl _⟩
      · obtain ⟨s, hs, k⟩ := cov x hx ho
        exact ⟨s, List.mem_cons_of_mem _ (List.mem_cons_of_mem _ hs), k⟩

/-- both ends taken out -/
def cut (f : Nat → Nat) (t : Nat) : Nat → Nat := byp (byp f (2 * t)) (2 * t + 1)
def les (f : Nat → Nat) (t i : Nat) : Nat := idx t (cut f t (nm t i))
def fie (f : Nat → Nat) (x : Nat) : Nat := f (flip x)
theorem cut_0 (f : Nat → Nat) (t : Nat) : cut f t (2 * t) = 2 * t := by
  unfold cut
  have e := byp_self f (2 * t)
  show (if 2 * t = 2 * t + 1 then 2 * t + 1 else if byp f (2 * t) (2 * t) = 2 * t + 1 then byp f (2 * t) (2 * t + 1) else byp f (2 * t) (2 * t)) = 2 * t
  rw [e, if_neg (by (first | lia | omega)), if_neg (by (first | lia | omega))]
theorem cut_1 (f : Nat → Nat) (t : Nat) : cut f t (2 * t + 1) = 2 * t + 1 := byp_self _ _
theorem flip_own {t x : Nat} : own2 t (flip x) ↔ own2 t x := by unfold own2 flip; split <;> (first | lia | omega)
theorem flip_nm (t i : Nat) : nm t (flip i) = flip (nm t i) := by unfold nm flip; (repeat' split) <;> (first | lia | omega)
theorem flip_idx {t x : Nat} (h : ¬ own2 t x) : idx t (flip x) = flip (idx t x) := by unfold own2 at h; unfold idx flip; (repeat' split) <;> (first | lia | omega)
section
variable {n m t : Nat} {f : Nat → Nat}
theorem cut_perm (h : PermOn n f) (ht : 2 * t + 1 < n) : PermOn n (cut f t) := byp_perm (byp_perm h (by (first | lia | omega))) ht
theorem cut_own (h : PermOn n f) (ht : 2 * t + 1 < n) {x : Nat} (hx : x < n) : own2 t x ↔ own2 t (cut f t x) := by
  have hp := cut_perm h ht
  constructor
  · rintro (rfl | rfl)
    · rw [cut_0]; exact .inl rfl
    · rw [cut_1]; exact .inr rfl
  · rintro (q | q)
    · exact .inl (hp.2 x _ hx (by (first | lia | omega)) (q.trans (cut_0 f t).symm))
    · exact .inr (hp.2 x _ hx ht (q.trans (cut_1 f t).symm))
theorem nm_lt (ht : 2 * t + 1 < n) {i : Nat} (hi : i < n - 2) : nm t i < n := by unfold nm; split <;> (first | lia | omega)
theorem idx_lt (ht : 2 * t + 1 < n) {x : Nat} (hx : x < n) (ho : ¬ own2 t x) : idx t x < n - 2 := by unfold own2 at ho; unfold idx; split <;> (first | lia | omega)
theorem les_perm (h : PermOn n f) (ht : 2 * t + 1 < n) : PermOn (n - 2) (les f t) := by
  have hp := cut_perm h ht
  have ho : ∀ i, i < n - 2 → ¬ own2 t (cut f t (nm t i)) := fun i hi k => nm_own t i ((cut_own h ht (nm_lt ht hi)).mpr k)
  refine ⟨fun i hi => idx_lt ht (hp.1 _ (nm_lt ht hi)) (ho i hi), fun i j hi hj e => ?_⟩
  have e1 := congrArg (nm t) e
  unfold les at e1
  rw [nm_idx (ho i hi), nm_idx (ho j hj)] at e1
  have e2 := hp.2 _ _ (nm_lt ht hi) (nm_lt ht hj) e1
  have := congrArg (idx t) e2
  rwa [idx_nm, idx_nm] at this
theorem stp_down (h : PermOn n f) (ht : 2 * t + 1 < n) {x y : Nat} (g : stp n (cut f t) x y) (hx : ¬ own2 t x) : stp (n - 2) (les f t) (idx t x) (idx t y) := by
  obtain ⟨hx', rfl⟩ := g
  exact ⟨idx_lt ht hx' hx, by unfold les; rw [nm_idx hx]⟩
theorem stp_up (h : PermOn n f) (ht : 2 * t + 1 < n) {x y : Nat} (g : stp (n - 2) (les f t) x y) : stp n (cut f t) (nm t x) (nm t y) := by
  obtain ⟨hx, rfl⟩ := g
  refine ⟨nm_lt ht hx, ?_⟩
  unfold les
  exact nm_idx fun k => nm_own t x ((cut_own h ht (nm_lt ht hx)).mpr k)
theorem byp_out (hb1 : f (2 * t + 1) ≠ 2 * t + 1) (hbo : ¬ (f (2 * t) = 2 * t + 1 ∧ f (2 * t + 1) = 2 * t)) : byp f (2 * t) (2 * t + 1) ≠ 2 * t + 1 := by
  unfold byp
  rw [if_neg (by (first | lia | omega))]
  split
  · rename_i q; exact fun r => hbo ⟨r, q⟩
  · exact hb1

theorem less_corners (h : PermOn n f) (ht : 2 * t + 1 < n) (hb0 : f (2 * t) ≠ 2 * t) (hb1 : f (2 * t + 1) ≠ 2 * t + 1) (hbo : ¬ (f (2 * t) = 2 * t + 1 ∧ f (2 * t + 1) = 2 * t)) :
    num (n - 2) (stp (n - 2) (les f t)) = num n (stp n f) := by
  have h0 : 2 * t < n := by (first | lia | omega)
  have e1 := byp_num h h0 hb0
  have e2 := byp_num (byp_perm h h0) ht (byp_out hb1 hbo)
  have e3 := (num_down ht (G := stp n (cut f t)) (H := stp (n - 2) (les f t)) (fun x y g => by obtain ⟨hx, rfl⟩ := g; exact cut_own h ht hx) (fun x y g hx _ => .rel (stp_down h ht g hx)) (fun x y g => .rel (stp_up h ht g))).2 (fun k => by
    have hp := cut_perm h ht
    have := (alone (G := stp n (cut f t)) (e := 2 * t) (fun x y g => by
      obtain ⟨hx, rfl⟩ := g
      exact ⟨fun q => by subst q; exact cut_0 f t, fun q => hp.2 x _ hx h0 (q.trans (cut_0 f t).symm)⟩) k).mp rfl
    (first | lia | omega))
  have e4 : num n (stp n (cut f t)) = num n (stp n f) + 2 := by unfold cut; (first | lia | omega)
  (first | lia | omega)

theorem fie_perm (h : PermOn n f) (hn : n = 2 * m) : PermOn n (fie f) :=
  ⟨fun i hi => h.1 _ (by subst hn; exact flip_lt hi), fun i j hi hj e => by
    have := congrArg flip (h.2 _ _ (by subst hn; exact flip_lt hi) (by subst hn; exact flip_lt hj) e)
    rwa [flip_flip, flip_flip] at this⟩
theorem less_fields (h : PermOn n f) (hn : n = 2 * m) (ht : t < m) (hb0 : f (2 * t) ≠ 2 * t) (hb1 : f (2 * t + 1) ≠ 2 * t + 1) (hbo : ¬ (f (2 * t) = 2 * t + 1 ∧ f (2 * t + 1) = 2 * t)) (hap : ¬ Cyc n (fie f) (2 * t) (2 * t + 1)) :
    num (n - 2) (stp (n - 2) (fie (les f t))) + 1 = num n (stp n (fie f)) := by
  have ht' : 2 * t + 1 < n := by (first | lia | omega)
  have h0 : 2 * t < n := by (first | lia | omega)
  have fl : ∀ x, x < n → flip x < n := fun x hx => by subst hn; exact flip_lt hx
  have hp := cut_perm h ht'
  have e1 := (num_down ht' (G := stp n (fie (cut f t))) (H := stp (n - 2) (fie (les f t))) (fun x y g => by
      obtain ⟨hx, rfl⟩ := g
      exact flip_own.symm.trans (cut_own h ht' (fl x hx))) (fun x y g hx hy => by
      obtain ⟨hx', rfl⟩ := g
      refine .rel ⟨idx_lt ht' hx' hx, ?_⟩
      have hfx : ¬ own2 t (flip x) := fun k => hx (flip_own.mp k)
      have := (stp_down h ht' ⟨fl x hx', rfl⟩ hfx).2
      rw [flip_idx hx] at this
      exact this) (fun x y g => by
      obtain ⟨hx, rfl⟩ := g
      refine .rel ⟨nm_lt ht' hx, ?_⟩
      have hfx : flip x < n - 2 := by have : n - 2 = 2 * (m - 1) := by (first | lia | omega)
                                      rw [this] at hx ⊢; exact flip_lt hx
      have := (stp_up h ht' ⟨hfx, rfl⟩).2
      rw [flip_nm] at this
      exact this)).1 (.rel ⟨h0, by
        show 2 * t + 1 = cut f t (flip (2 * t))
        have : flip (2 * t) = 2 * t + 1 := by unfold flip; rw [if_pos (by (first | lia | omega))]
        rw [this, cut_1]⟩)
  rw [← e1]
  -- two transpositions
  obtain ⟨y, hy, hfy⟩ := pre_ex h h0
  have hye : y ≠ 2 * t := fun q => hb0 (q ▸ hfy)
  have hq := byp_perm h h0
  have hb1' := byp_out hb1 hbo
  obtain ⟨z, hz, hfz⟩ := pre_ex hq ht'
  have hze : z ≠ 2 * t + 1 := fun q => hb1' (q ▸ hfz)
  have f0 : flip (2 * t) = 2 * t + 1 := by unfold flip; rw [if_pos (by (first | lia | omega))]
  have f1 : flip (2 * t + 1) = 2 * t := by unfold flip; rw [if_neg (by (first | lia | omega))]; (first | lia | omega)
  have sf : ∀ a b x, flip (sw (flip a) (flip b) x) = sw a b (flip x) := by
    intro a b x
    unfold sw
    by_cases q : x = flip a
    · subst q; rw [if_pos rfl, flip_flip, flip_flip, if_pos rfl]
    · rw [if_neg q]
      have q1 : flip x ≠ a := fun r => q (by rw [← r, flip_flip])
      rw [if_neg q1]
      by_cases p : x = flip b
      · subst p; rw [if_pos rfl, flip_flip, flip_flip, if_pos rfl]
      · have p1 : flip x ≠ b := fun r => p (by rw [← r, flip_flip])
        rw [if_neg p, if_neg p1]
  have t1 : ∀ x, x < n → fie (byp f (2 * t)) x = tr (fie f) (2 * t + 1) (flip y) x := by
    intro x hx
    show byp f (2 * t) (flip x) = f (flip (sw (2 * t + 1) (flip y) x))
    rw [byp_tr h h0 hy hfy (fl x hx), ← f0, sf]
    rfl
  have t2 : ∀ x, x < n → fie (cut f t) x = tr (fie (byp f (2 * t))) (2 * t) (flip z) x := by
    intro x hx
    show byp (byp f (2 * t)) (2 * t + 1) (flip x) = byp f (2 * t) (flip (sw (2 * t) (flip z) x))
    rw [byp_tr hq ht' hz hfz (fl x hx)]
    have := sf (2 * t + 1) z x
    rw [f1] at this
    rw [this]
    rfl
  have hφ := fie_perm h hn
  have hφ1 := fie_perm hq hn
  have ly : Cyc n (fie f) (flip y) (2 * t) := .rel ⟨fl y hy, by show 2 * t = f (flip (flip y)); rw [flip_flip, hfy]⟩
  have n1 : ¬ Cyc n (fie f) (2 * t + 1) (flip y) := fun k => hap (Eqv.symm (Eqv.trans k ly))
  have a1 : num n (stp n (fie (byp f (2 * t)))) + 1 = num n (stp n (fie f)) := by
    rw [stp_congr t1]; exact tr_unlike hφ ht' (fl y hy) n1
  have j1 : ∀ x y', Eqv (ext (stp n (fie f)) (2 * t + 1) (flip y)) x y' → Cyc n (fie (byp f (2 * t))) x y' := fun x y' k =>
    cyc_congr (fun x hx => (t1 x hx).symm) (cyc_ext hφ ht' (fl y hy) n1 k)
  have l1 : Cyc n (fie (byp f (2 * t))) (2 * t) (2 * t + 1) := by
    refine j1 _ _ ?_
    refine Eqv.trans ((Eqv.mono (fun _ _ g => .rel (.inl g)) ly : Eqv _ (flip y) (2 * t)).symm) ?_
    exact Eqv.symm (.rel (.inr ⟨rfl, rfl⟩))
  have lz : Cyc n (fie (byp f (2 * t))) (flip z) (2 * t + 1) := .rel ⟨fl z hz, by show 2 * t + 1 = byp f (2 * t) (flip (flip z)); rw [flip_flip, hfz]⟩
  have a2 : num n (stp n (fie (cut f t))) = num n (stp n (fie (byp f (2 * t)))) + 1 := by
    rw [stp_congr t2]
    refine tr_like hφ1 h0 (fl z hz) (fun q => hze ?_) (Eqv.trans l1 (Eqv.symm lz))
    have := congrArg flip q
    rw [flip_flip, f0] at this
    exact this.symm
  (first | lia | omega)

theorem less_pieces (h : PermOn n f) (hn : n = 2 * m) (ht : t < m) (hb0 : f (2 * t) ≠ 2 * t) (hb1 : f (2 * t + 1) ≠ 2 * t + 1) (hbo : ¬ (f (2 * t) = 2 * t + 1 ∧ f (2 * t + 1) = 2 * t)) (hap : ¬ Cyc n (fie f) (2 * t) (2 * t + 1)) :
    num (n - 2) (pg (n - 2) (les f t) (m - 1)) = num n (pg n f m) := by
  have ht' : 2 * t + 1 < n := by (first | lia | omega)
  have h0 : 2 * t < n := by (first | lia | omega)
  have f0 : flip (2 * t) = 2 * t + 1 := by unfold flip; rw [if_pos (by (first | lia | omega))]
  have f1 : flip (2 * t + 1) = 2 * t := by unfold flip; rw [if_neg (by (first | lia | omega))]; (first | lia | omega)
  have fl : ∀ x, x < n → flip x < n := fun x hx => by subst hn; exact flip_lt hx
  have hp := cut_perm h ht'
  -- joined without the tie
  let ψ : Nat → Nat := fun x => f (if x = 2 * t ∨ x = 2 * t + 1 then x else flip x)
  have hψ : fie f = tr ψ (2 * t) (2 * t + 1) := by
    funext x
    show f (flip x) = f (if sw (2 * t) (2 * t + 1) x = 2 * t ∨ sw (2 * t) (2 * t + 1) x = 2 * t + 1 then _ else _)
    congr 1
    unfold sw flip
    (repeat' split) <;> (first | lia | omega)
  have pψ : PermOn n ψ := by
    have := perm_tr (fie_perm h hn) h0 ht'
    rw [hψ, tr_tr] at this
    exact this
  have lψ : Cyc n ψ (2 * t) (2 * t + 1) := by
    refine Classical.byContradiction fun k => hap ?_
    rw [hψ]
    exact tr_joins pψ h0 ht' k
  have lg : Eqv (gt n f m t) (2 * t) (2 * t + 1) := by
    refine lψ.mono fun x y g => ?_
    obtain ⟨hx, rfl⟩ := g
    show Eqv _ x (f (if x = 2 * t ∨ x = 2 * t + 1 then x else flip x))
    by_cases q : x = 2 * t ∨ x = 2 * t + 1
    · rw [if_pos q]; exact .rel (.inl ⟨hx, rfl⟩)
    · rw [if_neg q]
      have s1 : Eqv (gt n f m t) x (flip x) := by
        unfold flip
        by_cases p : x % 2 = 0
        · rw [if_pos p]
          exact .rel (.inr ⟨x / 2, by (first | lia | omega), by (first | lia | omega), by (first | lia | omega), by (first | lia | omega)⟩)
        · rw [if_neg p]
          exact .symm (.rel (.inr ⟨x / 2, by (first | lia | omega), by (first | lia | omega), by (first | lia | omega), by (first | lia | omega)⟩))
      exact s1.trans (.rel (.inl ⟨fl x hx, rfl⟩))
  have a0 : num n (pg n f m) = num n (gt n f m t) := by rw [pg_gt ht, num_ext_like lg]
  have a1 := byp_gt (m := m) (t := t) h h0 (.inl rfl) hb0
  have a2 := byp_gt (m := m) (t := t) (byp_perm h h0) ht' (.inr rfl) (byp_out hb1 hbo)
  have n0 : ¬ Eqv (gt n (cut f t) m t) (2 * t) (2 * t + 1) := fun k => by
    have := (alone (G := gt n (cut f t) m t) (e := 2 * t) (fun x y g => by
      rcases g with ⟨hx, rfl⟩ | ⟨j, hj, hjt, rfl, rfl⟩
      · exact ⟨fun q => by subst q; exact cut_0 f t, fun q => hp.2 x _ hx h0 (q.trans (cut_0 f t).symm)⟩
      · (first | lia | omega)) k).mp rfl
    (first | lia | omega)
  have a3 : num n (pg n (cut f t) m) + 1 = num n (gt n (cut f t) m t) := by rw [pg_gt ht]; exact num_ext_unlike h0 ht' n0
  have a4 := (num_down ht' (G := pg n (cut f t) m) (H := pg (n - 2) (les f t) (m - 1)) (fun x y g => by
      rcases g with ⟨hx, rfl⟩ | ⟨j, hj, rfl, rfl⟩
      · exact cut_own h ht' hx
      · unfold own2; (first | lia | omega)) (fun x y g hx hy => by
      rcases g with g | ⟨j, hj, rfl, rfl⟩
      · exact .rel (.inl (stp_down h ht' g hx))
      · unfold own2 at hx
        by_cases q : j < t
        · exact .rel (.inr ⟨j, by (first | lia | omega), by unfold idx; rw [if_pos (by (first | lia | omega))], by unfold idx; rw [if_pos (by (first | lia | omega))]⟩)
        · exact .rel (.inr ⟨j - 1, by (first | lia | omega), by unfold idx; rw [if_neg (by (first | lia | omega))]; (first | lia | omega), by unfold idx; rw [if_neg (by (first | lia | omega))]; (first | lia | omega)⟩)) (fun x y g => by
      rcases g with g | ⟨j, hj, rfl, rfl⟩
      · exact .rel (.inl (stp_up h ht' g))
      · by_cases q : j < t
        · exact .rel (.inr ⟨j, by (first | lia | omega), by unfold nm; rw [if_pos (by (first | lia | omega))], by unfold nm; rw [if_pos (by (first | lia | omega))]⟩)
        · exact .rel (.inr ⟨j + 1, by (first | lia | omega), by unfold nm; rw [if_neg (by (first | lia | omega))]; (first | lia | omega), by unfold nm; rw [if_neg (by (first | lia | omega))]; (first | lia | omega)⟩))).1 (.rel (.inr ⟨t, ht, rfl, rfl⟩))
  have e : gt n (byp (byp f (2 * t)) (2 * t + 1)) m t = gt n (cut f t) m t := rfl
  rw [e] at a2
  (first | lia | omega)
end

section
variable {n m : Nat} {f g : Nat → Nat}

theorem fie_fie (f : Nat → Nat) : fie (fie f) = f := by funext x; unfold fie; rw [flip_flip]
theorem pg_fie (hn : n = 2 * m) : num n (pg n (fie f) m) = num n (pg n f m) := by
  have fl : ∀ x, x < n → flip x < n := fun x hx => by subst hn; exact flip_lt hx
  have one : ∀ f : Nat → Nat, ∀ x y, Eqv (pg n (fie f) m) x y → Eqv (pg n f m) x y := by
    intro f x y k
    refine k.mono fun x y g => ?_
    rcases g with ⟨hx, rfl⟩ | g
    · exact (flip_pg (by (first | lia | omega))).trans (.rel (.inl ⟨fl x hx, rfl⟩))
    · exact .rel (.inr g)
  refine num_congr fun x y => ⟨one f x y, fun k => one (fie f) x y ?_⟩
  rw [fie_fie]
  exact k
theorem genus_all (h : PermOn n f) (hn : n = 2 * m) : ∃ g, 2 * num n (pg n f m) + m = num n (stp n f) + num n (stp n (fie f)) + 2 * g := by
  obtain ⟨g, e⟩ := genus h m (by (first | lia | omega))
  rw [stp_congr (f := fun x => f (al m x)) (g := fie f) fun x hx => by show f (al m x) = f (flip x); unfold al; rw [if_pos (by (first | lia | omega))]] at e
  exact ⟨g, e⟩
theorem num_pos {G : Nat → Nat → Prop} (h : 0 < n) : 0 < num n G := by
  obtain ⟨S, hS, e⟩ := num_sys n G
  obtain ⟨s, hs, _⟩ := hS.all 0 h
  rw [e]; exact List.length_pos_of_mem hs

/- the other way round -/
theorem inv_cyc (hf : ∀ x, x < n → f x < n) (hgf : ∀ x, x < n → g (f x) = x) {x y : Nat} (k : Eqv (stp n f) x y) : Eqv (stp n g) x y :=
  k.mono fun x y e => by
    obtain ⟨hx, rfl⟩ := e
    exact .symm (.rel ⟨hf x hx, (hgf x hx).symm⟩)
theorem inv_num (hf : ∀ x, x < n → f x < n) (hg : ∀ x, x < n → g x < n) (hgf : ∀ x, x < n → g (f x) = x) (hfg : ∀ x, x < n → f (g x) = x) : num n (stp n g) = num n (stp n f) :=
  num_congr fun x y => ⟨inv_cyc hg hfg, inv_cyc hf hgf⟩
theorem inv_pg (hf : ∀ x, x < n → f x < n) (hg : ∀ x, x < n → g x < n) (hgf : ∀ x, x < n → g (f x) = x) (hfg : ∀ x, x < n → f (g x) = x) : num n (pg n g m) = num n (pg n f m) := by
  have one : ∀ f g : Nat → Nat, (∀ x, x < n → f x < n) → (∀ x, x < n → g (f x) = x) → ∀ x y, Eqv (pg n f m) x y → Eqv (pg n g m) x y := by
    intro f g hf hgf x y k
    refine k.mono fun x y e => ?_
    rcases e with e | e
    · exact (inv_cyc hf hgf (.rel e)).mono fun _ _ e => .rel (.inl e)
    · exact .rel (.inr e)
  exact num_congr fun x y => ⟨one g f hg hfg x y, one f g hf hgf x y⟩
theorem inv_fie (hn : n = 2 * m) (hf : ∀ x, x < n → f x < n) (hg : ∀ x, x < n → g x < n) (hgf : ∀ x, x < n → g (f x) = x) (hfg : ∀ x, x < n → f (g x) = x) : num n (stp n (fie g)) = num n (stp n (fie f)) := by
  have fl : ∀ x, x < n → flip x < n := fun x hx => by subst hn; exact flip_lt hx
  have e1 : num n (stp n (fie g)) = num n (stp n fun x => flip (f x)) := inv_num (fun x hx => fl _ (hf x hx)) (fun x hx => hg _ (fl x hx)) (fun x hx => by show g (flip (flip (f x))) = x; rw [flip_flip, hgf x hx]) (fun x hx => by show flip (f (g (flip x))) = x; rw [hfg _ (fl x hx), flip_flip])
  rw [e1]
  refine num_invol flip fl flip_flip (fun x y e => ?_) (fun x y e => ?_)
  · obtain ⟨hx, rfl⟩ := e
    exact .rel ⟨fl x hx, rfl⟩
  · obtain ⟨hx, rfl⟩ := e
    exact .rel ⟨fl x hx, by show flip (flip (f x)) = f (flip (flip x)); rw [flip_flip, flip_flip]⟩

/- all changed about -/
theorem chg_num (hn : n = 2 * m) (hg : ∀ x, x < n → g x = flip (f (flip x))) : num n (stp n g) = num n (stp n f) := by
  have fl : ∀ x, x < n → flip x < n := fun x hx => by subst hn; exact flip_lt hx
  refine num_invol flip fl flip_flip (fun x y e => ?_) (fun x y e => ?_)
  · obtain ⟨hx, rfl⟩ := e
    exact .rel ⟨fl x hx, by rw [hg _ (fl x hx), flip_flip]⟩
  · obtain ⟨hx, rfl⟩ := e
    exact .rel ⟨fl x hx, by rw [hg x hx, flip_flip]⟩
theorem chg_fie (hn : n = 2 * m) (hg : ∀ x, x < n → g x = flip (f (flip x))) : num n (stp n (fie g)) = num n (stp n (fie f)) := by
  have fl : ∀ x, x < n → flip x < n := fun x hx => by subst hn; exact flip_lt hx
  refine chg_num hn fun x hx => ?_
  show g (flip x) = flip (f (flip (flip x)))
  exact hg _ (fl x hx)
theorem chg_pg (hn : n = 2 * m) (hg : ∀ x, x < n → g x = flip (f (flip x))) : num n (pg n g m) = num n (pg n f m) := by
  have fl : ∀ x, x < n → flip x < n := fun x hx => by subst hn; exact flip_lt hx
  have tie : ∀ (f : Nat → Nat) (x y : Nat), (∃ j, j < m ∧ x = 2 * j ∧ y = 2 * j + 1) → Eqv (pg n f m) (flip x) (flip y) := by
    rintro f x y ⟨j, hj, rfl, rfl⟩
    have a : flip (2 * j) = 2 * j + 1 := by unfold flip; rw [if_pos (by (first | lia | omega))]
    have b : flip (2 * j + 1) = 2 * j := by unfold flip; rw [if_neg (by (first | lia | omega))]; (first | lia | omega)
    rw [a, b]
    exact .symm (.rel (.inr ⟨j, hj, rfl, rfl⟩))
  refine num_invol flip fl flip_flip (fun x y e => ?_) (fun x y e => ?_)
  · rcases e with ⟨hx, rfl⟩ | e
    · exact .rel (.inl ⟨fl x hx, by rw [hg _ (fl x hx), flip_flip]⟩)
    · exact tie g x y e
  · rcases e with ⟨hx, rfl⟩ | e
    · exact .rel (.inl ⟨fl x hx, by rw [hg x hx, flip_flip]⟩)
    · exact tie f x y e

/- from the other end -/
def rv (n x : Nat) : Nat := if x < n then n - 1 - x else x
theorem rv_rv (n x : Nat) : rv n (rv n x) = x := by unfold rv; (repeat' split) <;> (first | lia | omega)
theorem rv_lt {x : Nat} (h : x < n) : rv n x < n := by unfold rv; split <;> (first | lia | omega)
theorem rv_flip (hn : n = 2 * m) (x : Nat) (h : x < n) : rv n (flip x) = flip (rv n x) := by unfold rv flip; (repeat' split) <;> (first | lia | omega)
theorem rev_num (hf : ∀ x, x < n → f x < n) (hg : ∀ x, x < n → g x = rv n (f (rv n x))) : num n (stp n g) = num n (stp n f) := by
  refine num_invol (rv n) (fun x hx => rv_lt hx) (rv_rv n) (fun x y e => ?_) (fun x y e => ?_)
  · obtain ⟨hx, rfl⟩ := e
    exact .rel ⟨rv_lt hx, by rw [hg _ (rv_lt hx), rv_rv]⟩
  · obtain ⟨hx, rfl⟩ := e
    exact .rel ⟨rv_lt hx, by rw [hg x hx, rv_rv]⟩
theorem rev_fie (hn : n = 2 * m) (hf : ∀ x, x < n → f x < n) (hg : ∀ x, x < n → g x = rv n (f (rv n x))) : num n (stp n (fie g)) = num n (stp n (fie f)) := by
  have fl : ∀ x, x < n → flip x < n := fun x hx => by subst hn; exact flip_lt hx
  refine rev_num (fun x hx => hf _ (fl x hx)) fun x hx => ?_
  show g (flip x) = rv n (f (flip (rv n x)))
  rw [hg _ (fl x hx), rv_flip hn x hx]
theorem rev_pg (hn : n = 2 * m) (hf : ∀ x, x < n → f x < n) (hg : ∀ x, x < n → g x = rv n (f (rv n x))) : num n (pg n g m) = num n (pg n f m) := by
  have tie : ∀ (f : Nat → Nat) (x y : Nat), (∃ j, j < m ∧ x = 2 * j ∧ y = 2 * j + 1) → Eqv (pg n f m) (rv n x) (rv n y) := by
    rintro f x y ⟨j, hj, rfl, rfl⟩
    refine .symm (.rel (.inr ⟨m - 1 - j, by (first | lia | omega), ?_, ?_⟩)) <;> (unfold rv; rw [if_pos (by (first | lia | omega))]; (first | lia | omega))
  refine num_invol (rv n) (fun x hx => rv_lt hx) (rv_rv n) (fun x y e => ?_) (fun x y e => ?_)
  · rcases e with ⟨hx, rfl⟩ | e
    · exact .rel (.inl ⟨rv_lt hx, by rw [hg _ (rv_lt hx), rv_rv]⟩)
    · exact tie g x y e
  · rcases e with ⟨hx, rfl⟩ | e
    · exact .rel (.inl ⟨rv_lt hx, by rw [hg x hx, rv_rv]⟩)
    · exact tie f x y e
end

/- the order as a function; its rounds as lists -/
def fn (ks : List Int) (i : Nat) : Nat := (ks.getD i 0).toNat
structure Ord (ks : List Int) (m : Nat) : Prop where
  len : ks.length = 2 * m
  pos : 1 ≤ m
  few : m ≤ 4
  perm : PermOn ks.length (fn ks)
  low : ∀ k ∈ ks, 0 ≤ k
def walk (f : Nat → Nat) (x k : Nat) : List Int := (List.range k).map fun j => ((it f j x : Nat) : Int)
theorem walk_len (f : Nat → Nat) (x k : Nat) : (walk f x k).length = k := by simp [walk]
theorem walk_succ (f : Nat → Nat) (x k : Nat) : walk f x (k + 1) = walk f x k ++ [((it f k x : Nat) : Int)] := by
  unfold walk; rw [List.range_succ, List.map_append]; rfl
theorem mem_walk {f : Nat → Nat} {x k : Nat} {y : Int} : y ∈ walk f x k ↔ ∃ j, j < k ∧ y = ((it f j x : Nat) : Int) := by
  unfold walk
  rw [List.mem_map]
  constructor
  · rintro ⟨j, hj, rfl⟩; exact ⟨j, List.mem_range.mp hj, rfl⟩
  · rintro ⟨j, hj, rfl⟩; exact ⟨j, List.mem_range.mpr hj, rfl⟩
/-- a whole round from x -/
def Ring (n : Nat) (f : Nat → Nat) (x : Nat) (r : List Int) : Prop := x < n ∧ ∃ k, 0 < k ∧ r = walk f x k ∧ it f k x = x ∧ r.Nodup
/-- so far a round from x -/
def Part (n : Nat) (f : Nat → Nat) (x : Nat) (r : List Int) (here : Int) : Prop := x < n ∧ ∃ k, r = walk f x k ∧ here = ((it f k x : Nat) : Int) ∧ r.Nodup ∧ k ≤ n
theorem Part.start {n : Nat} {f : Nat → Nat} {x : Nat} (hx : x < n) : Part n f x [] (x : Int) := ⟨hx, 0, rfl, rfl, .nil, Nat.zero_le _⟩
theorem Part.next {n : Nat} {f : Nat → Nat} (h : PermOn n f) {x : Nat} {r : List Int} {y : Int} (p : Part n f x r y) (hn : y ∉ r) : Part n f x (r ++ [y]) ((f y.toNat : Nat) : Int) := by
  obtain ⟨hx, k, rfl, rfl, hd, _⟩ := p
  have hd' : (walk f x (k + 1)).Nodup := by
    rw [walk_succ]
    exact List.nodup_append.mpr ⟨hd, List.pairwise_singleton _ _, fun a ha b hb => by
      rw [List.mem_singleton.mp hb]; rintro rfl; exact hn ha⟩
  refine ⟨hx, k + 1, (walk_succ f x k).symm, ?_, walk_succ f x k ▸ hd', ?_⟩
  · rw [Int.toNat_natCast]; rfl
  · have key : ((List.range (k + 1)).map fun j => it f j x).Nodup := by
      unfold walk at hd'
      rw [List.Nodup, List.pairwise_map] at hd' ⊢
      exact hd'.imp fun hab e => hab (by rw [e])
    have := nodup_le n _ key fun y hy => by
      obtain ⟨j, _, rfl⟩ := List.mem_map.mp hy
      exact it_lt h j x hx
    rwa [List.length_map, List.length_range] at this
theorem Part.stop {n : Nat} {f : Nat → Nat} (h : PermOn n f) {x : Nat} {r : List Int} {y : Int} (p : Part n f x r y) (hy : y ∈ r) : Ring n f x r := by
  obtain ⟨hx, k, rfl, rfl, hd, _⟩ := p
  obtain ⟨j, hj, e⟩ := mem_walk.mp hy
  have e : it f k x = it f j x := by (first | lia | omega)
  refine ⟨hx, k, by (first | lia | omega), rfl, ?_, hd⟩
  cases j with
  | zero => exact e
  | succ j =>
    exfalso
    obtain ⟨k, rfl⟩ : ∃ q, k = q + 1 := ⟨k - 1, by (first | lia | omega)⟩
    have e2 := h.2 _ _ (it_lt h k x hx) (it_lt h j x hx) e
    unfold walk at hd
    rw [List.Nodup, List.pairwise_map] at hd
    have := (List.pairwise_iff_getElem.mp hd) j k (by simp; (first | lia | omega)) (by simp) (by (first | lia | omega))
    simp only [List.getElem_range] at this
    exact this (by rw [e2])
theorem Part.len {n : Nat} {f : Nat → Nat} {x : Nat} {r : List Int} {y : Int} (p : Part n f x r y) : r.length ≤ n := by
  obtain ⟨_, k, rfl, _, _, hk⟩ := p
  rw [walk_len]; exact hk
theorem Part.at {n : Nat} {f : Nat → Nat} (h : PermOn n f) {x : Nat} {r : List Int} {y : Int} (p : Part n f x r y) : 0 ≤ y ∧ y < n := by
  obtain ⟨hx, k, _, rfl, _, _⟩ := p
  have := it_lt h k x hx
  (first | lia | omega)
theorem ring_mem {n : Nat} {f : Nat → Nat} (h : PermOn n f) {x : Nat} {r : List Int} (p : Ring n f x r) (y : Nat) : (y : Int) ∈ r ↔ Cyc n f x y := by
  obtain ⟨hx, k, hk, rfl, e, _⟩ := p
  rw [mem_walk]
  constructor
  · rintro ⟨j, _, q⟩
    have : y = it f j x := by (first | lia | omega)
    rw [this]; exact it_cyc h hx j
  · intro c
    obtain ⟨q, rfl⟩ := (cyc_it h c).2 hx
    exact ⟨q % k, Nat.mod_lt _ hk, by rw [it_mod e q]⟩
theorem ring_low {n : Nat} {f : Nat → Nat} (h : PermOn n f) {x : Nat} {r : List Int} (p : Ring n f x r) {y : Int} (hy : y ∈ r) : 0 ≤ y ∧ y < n := by
  obtain ⟨hx, k, hk, rfl, e, _⟩ := p
  obtain ⟨j, _, rfl⟩ := mem_walk.mp hy
  have := it_lt h j x hx
  (first | lia | omega)
/-- the rounds found so far -/
inductive Fnd (n : Nat) (f : Nat → Nat) : List Nat → List (List Int) → Prop
  | nil : Fnd n f [] []
  | snoc {xs rs x r} : Fnd n f xs rs → Ring n f x r → (∀ y ∈ xs, ¬ Cyc n f y x) → Fnd n f (xs ++ [x]) (rs ++ [r])
theorem Fnd.len {n : Nat} {f : Nat → Nat} {xs : List Nat} {rs : List (List Int)} (h : Fnd n f xs rs) : xs.length = rs.length := by
  induction h with
  | nil => rfl
  | snoc _ _ _ ih => simp [ih]
theorem Fnd.dom {n : Nat} {f : Nat → Nat} {xs : List Nat} {rs : List (List Int)} (h : Fnd n f xs rs) : ∀ x ∈ xs, x < n := by
  induction h with
  | nil => intro x hx; exact nomatch hx
  | snoc _ hr _ ih =>
    intro x hx
    rcases List.mem_append.mp hx with hx | hx
    · exact ih x hx
    · rw [List.mem_singleton.mp hx]; exact hr.1
theorem Fnd.apart {n : Nat} {f : Nat → Nat} {xs : List Nat} {rs : List (List Int)} (h : Fnd n f xs rs) : xs.Pairwise fun a b => ¬ Cyc n f a b := by
  induction h with
  | nil => exact .nil
  | snoc _ _ ha ih => exact List.pairwise_append.mpr ⟨ih, List.pairwise_singleton _ _, fun a hx b hb => by rw [List.mem_singleton.mp hb]; exact ha a hx⟩
theorem Fnd.mem {n : Nat} {f : Nat → Nat} (p : PermOn n f) {xs : List Nat} {rs : List (List Int)} (h : Fnd n f xs rs) (y : Nat) : (y : Int) ∈ rs.flatten ↔ ∃ x ∈ xs, Cyc n f x y := by
  induction h with
  | nil => simp
  | snoc _ hr _ ih =>
    rw [List.flatten_append, List.mem_append, ih]
    simp only [List.flatten_cons, List.flatten_nil, List.append_nil, ring_mem p hr]
    constructor
    · rintro (⟨x, hx, c⟩ | c)
      · exact ⟨x, List.mem_append.mpr (.inl hx), c⟩
      · exact ⟨_, List.mem_append.mpr (.inr (List.mem_singleton.mpr rfl)), c⟩
    · rintro ⟨x, hx, c⟩
      rcases List.mem_append.mp hx with hx | hx
      · exact .inl ⟨x, hx, c⟩
      · rw [List.mem_singleton.mp hx] at c; exact .inr c
theorem Fnd.low {n : Nat} {f : Nat → Nat} (p : PermOn n f) {xs : List Nat} {rs : List (List Int)} (h : Fnd n f xs rs) {y : Int} (hy : y ∈ rs.flatten) : 0 ≤ y ∧ y < n := by
  induction h with
  | nil => simp at hy
  | snoc _ hr _ ih =>
    rw [List.flatten_append, List.mem_append] at hy
    rcases hy with hy | hy
    · exact ih hy
    · simp only [List.flatten_cons, List.flatten_nil, List.append_nil] at hy
      exact ring_low p hr hy
theorem Fnd.nodup {n : Nat} {f : Nat → Nat} (p : PermOn n f) {xs : List Nat} {rs : List (List Int)} (h : Fnd n f xs rs) : rs.flatten.Nodup := by
  induction h with
  | nil => exact .nil
  | @snoc xs rs x r hf hr ha ih =>
    rw [List.flatten_append]
    simp only [List.flatten_cons, List.flatten_nil, List.append_nil]
    obtain ⟨_, k, _, _, _, hd⟩ := id hr
    refine List.nodup_append.mpr ⟨ih, hd, fun a hA b hb q => ?_⟩
    subst q
    have hl := hf.low p hA
    obtain ⟨y, rfl⟩ : ∃ y : Nat, a = (y : Int) := ⟨a.toNat, by (first | lia | omega)⟩
    obtain ⟨z, hz, c⟩ := (hf.mem p y).mp hA
    exact ha z hz (c.trans ((ring_mem p hr y).mp hb).symm)
theorem Fnd.add {n : Nat} {f : Nat → Nat} (p : PermOn n f) {xs : List Nat} {rs : List (List Int)} (h : Fnd n f xs rs) {x : Nat} {r : List Int} (hr : Ring n f x r) (hx : (x : Int) ∉ rs.flatten) : Fnd n f (xs ++ [x]) (rs ++ [r]) :=
  .snoc h hr fun y hy c => hx ((h.mem p x).mpr ⟨y, hy, c⟩)
theorem Fnd.sys {n : Nat} {f : Nat → Nat} (p : PermOn n f) {xs : List Nat} {rs : List (List Int)} (h : Fnd n f xs rs) (all : ∀ y : Nat, y < n → (y : Int) ∈ rs.flatten) : num n (stp n f) = rs.length := by
  rw [← h.len]
  exact num_of ⟨h.dom, h.apart, fun y hy => (h.mem p y).mp (all y hy)⟩
theorem Fnd.like {n : Nat} {f : Nat → Nat} (p : PermOn n f) {xs : List Nat} {rs : List (List Int)} (h : Fnd n f xs rs) (all : ∀ y : Nat, y < n → (y : Int) ∈ rs.flatten) {a b : Nat} (ha : a < n) : (∃ r ∈ rs, (a : Int) ∈ r ∧ (b : Int) ∈ r) ↔ Cyc n f a b := by
  have one : ∀ {xs rs}, Fnd n f xs rs → ∀ r ∈ rs, ∃ x, Ring n f x r := by
    intro xs rs h
    induction h with
    | nil => intro r hr; exact nomatch hr
    | snoc _ hr _ ih =>
      intro r hm
      rcases List.mem_append.mp hm with hm | hm
      · exact ih r hm
      · rw [List.mem_singleton.mp hm]; exact ⟨_, hr⟩
  constructor
  · rintro ⟨r, hr, h1, h2⟩
    obtain ⟨x, hx⟩ := one h r hr
    exact ((ring_mem p hx a).mp h1).symm.trans ((ring_mem p hx b).mp h2)
  · intro c
    obtain ⟨r, hr, h1⟩ := List.mem_flatten.mp (all a ha)
    obtain ⟨x, hx⟩ := one h r hr
    exact ⟨r, hr, h1, (ring_mem p hx b).mpr (((ring_mem p hx a).mp h1).trans c)⟩
theorem Fnd.range {n : Nat} {f : Nat → Nat} (p : PermOn n f) {xs : List Nat} {rs : List (List Int)} (h : Fnd n f xs rs) (all : ∀ y : Nat, y < n → (y : Int) ∈ rs.flatten) : rs.flatten.Perm ((List.range n).map fun i => ((i : Nat) : Int)) := by
  refine (List.perm_ext_iff_of_nodup (h.nodup p) ?_).mpr fun y => ⟨fun hy => ?_, fun hy => ?_⟩
  · rw [List.Nodup, List.pairwise_map]
    exact (List.pairwise_lt_range (n := n)).imp fun hab e => by (first | lia | omega)
  · have := h.low p hy
    exact List.mem_map.mpr ⟨y.toNat, List.mem_range.mpr (by (first | lia | omega)), by (first | lia | omega)⟩
  · obtain ⟨i, hi, rfl⟩ := List.mem_map.mp hy
    exact all i (List.mem_range.mp hi)

section
open LCg LCt

section
variable {prog : Program} {w : World} {A : Around} {E : Value → Shared → Prop} {s : Shared} {h₀ : Heap} {L : Addr} {m : Str → Option Value} {env : Env}

theorem bytes_W (hh : A.handled = none) (I : Addr) (b : Array UInt8) (t : Tok) {ks : List Int} (hk : KBw.bInts b = ks) :
    Walks prog w A I [I] [I] ks.length (fun i v => ∃ k t, ks[i]? = some k ∧ v = .int k t) (fun i h => KBw.IsBytesIter h I b t i) := by
  subst hk
  rw [KBw.ints_length]
  have W := KBw.walks (prog := prog) (w := w) hh I b t
  exact { sub := W.sub, frame := W.frame, done := W.done, self := W.self,
          item := fun i s Q E hi st hQ => W.item i s Q E hi st fun v h' tk hP => hQ v h' tk (by obtain ⟨c, u, hc, rfl⟩ := hP; exact ⟨_, u, KBw.ints_get hc, rfl⟩) }
theorem bytes_st {I : Addr} {b : Array UInt8} {t : Tok} : ∀ i (h h' : Heap) (o : Obj) (nw : List (Addr × Obj)), KBw.IsBytesIter h I b t i → h.get? I = some o → h'.get? I = some o → (∀ b o, h₀.get? b = some o → h'.get? b = some o) → News h₀ L h' nw → True → KBw.IsBytesIter h' I b t i :=
  fun i h h' o nw st e e' _ _ _ => by
    obtain ⟨o', q, r⟩ := st
    rw [e] at q; cases q
    exact ⟨o, e', r⟩

def CompSrcB (prog : Program) (w : World) (A : Around) (h₀ : Heap) (L : Addr) (m : Str → Option Value) (env : Env) (elt : Expr) (x : Str) (scope : Scope) (cl : List (Str × Addr)) (Fin : Shared → List Value → List (Addr × Obj) → Prop) (xv : Value) (s₁ : Shared) : Prop :=
  ∃ b t ks news, xv = .bytes b t ∧ A.handled = none ∧ Fr h₀ L s₁.heap m ∧ News h₀ L s₁.heap news ∧ KBw.bInts b = ks ∧ ks.length ≤ sizeLine ∧
    ∀ s₂ : Shared, (∃ h, s₂ = { s₁ with heap := h }) → CompRest prog w A h₀ L m env elt x scope cl s₂ (fun _ => True) (fun i v => ∃ k t, ks[i]? = some k ∧ v = .int k t) (Fin s₂) ks.length 0 [] news
theorem CompSrcB.map {elt : Expr} {x : Str} {scope : Scope} {cl : List (Str × Addr)} {Fin : Shared → List Value → List (Addr × Obj) → Prop} {b : Array UInt8} {t : Tok} {ks : List Int} {news : List (Addr × Obj)} {s₁ : Shared} (g : Int → Int)
    (hh : A.handled = none) (F : Fr h₀ L s₁.heap m) (N : News h₀ L s₁.heap news) (hk : KBw.bInts b = ks) (hsz : ks.length ≤ sizeLine)
    (turn : ∀ gh k t I oI C oC D m₂ ys h tk (E' : Value → Shared → Prop), k ∈ ks → LCg.NsObj oC m₂ → m₂ x = some (.int k t) → Fr h₀ L h m → News h₀ L h ((I, oI) :: (C, oC) :: (D, LCg.lst ys) :: news) → LCg.Off3 I C D news → ((@Ne Nat I C) ∧ (@Ne Nat I D) ∧ (@Ne Nat C D)) → KPfMark →
      wpAny (model prog w) A (eval elt (compEnvC scope cl C env)) (LCg.CompEnd h₀ L m { { s₁ with heap := gh } with heap := h, toks := tk } I oI C oC D (LCg.lst ys) (fun _ => True) (fun y news' => KCfEl news (g k) y news')) E' { { s₁ with heap := gh } with heap := h, toks := tk })
    (fin : ∀ gh, KPfDone (∀ ys, IntsAre ys (ks.map g) → Fin { s₁ with heap := gh } ys news)) : CompSrcB prog w A h₀ L m env elt x scope cl Fin (.bytes b t) s₁ :=
  ⟨b, t, ks, news, rfl, hh, F, N, hk, hsz, fun _ ⟨gh, e⟩ => e ▸ kcf_rest g rfl (fun _ _ _ h => h) (turn gh) (fin gh)⟩

end

end
section
open LCg LCt

section
variable {prog : Program} {w : World} {A : Around} {E : Value → Shared → Prop} {s : Shared} {h₀ : Heap} {L : Addr} {m : Str → Option Value} {env : Env}

/-- the comprehension's own room, with one cell -/
theorem newEnv_cell {scope : Scope} {x : Str} {cl : List (Str × Addr)} {Q : Env → Shared → Prop} (_hk : scope.kind = .function) (hc : ∀ n acc, cellsFrom n scope.names acc = (x, n) :: acc)
    (hQ : ∀ h₁ oc, h₁.get? s.heap.objs.size = some { cls := .type "dict", data := .dict #[] } → h₁.get? (s.heap.objs.size + 1) = some oc → oc.data = .cell none → (∀ b o, s.heap.get? b = some o → h₁.get? b = some o) → h₁.Ns s.heap.objs.size (fun _ => none) →
      Q (newEnv scope s.heap.objs.size env.globals ((x, s.heap.objs.size + 1) :: cl) env.qual none .none (some env) builtinsNs) { s with heap := h₁ }) :
    wpAny (model prog w) A (newFunctionEnv scope env.globals cl [] env.qual none .none (some env)) Q E s := by
  simp only [newFunctionEnv, Option.isSome_some, if_true]
  refine wpAny_bind (wpAny_alloc ?_)
  refine wpAny_bind (wpAny_layCells _ (fun name kind cells => by cases hkc : kind == NameKind.cell <;> simp) _ _ _ _ ?_)
  have ok := cellsFrom_ok scope.names (s.heap.push { cls := .type "dict", data := .dict #[] }) (s.heap.objs.size + 1) [] ⟨fun _ _ hm => (nomatch hm), List.Pairwise.nil⟩ (by rw [Heap.size_push]; exact Nat.le_refl _)
  rw [Heap.size_push, hc] at ok
  rw [show ({ s with heap := s.heap.push { cls := .type "dict", data := .dict #[] } } : Shared).heap.objs.size = s.heap.objs.size + 1 from Heap.size_push .., hc]
  refine wpAny_bind ?_
  rw [List.forIn_nil]
  refine wpAny_pure (wpAny_pure ?_)
  obtain ⟨oc, hoc, hd⟩ := (ok.empty x _ List.mem_cons_self).1
  have keep : ∀ b o, (s.heap.push { cls := .type "dict", data := .dict #[] }).get? b = some o → (pushCells (s.heap.push { cls := .type "dict", data := .dict #[] }) scope.names).get? b = some o := fun b o e => pushCells_keeps _ _ b o e
  exact hQ _ oc (keep _ _ (Heap.get?_push_size _ rfl)) hoc hd (fun b o e => keep _ _ (Heap.get?_push_of_some _ e)) ((Heap.Ns.new s.heap (.type "dict")).keeps keep)

abbrev cellEnv (scope : Scope) (x : Str) (c : Addr) (cl : List (Str × Addr)) (C : Addr) (env : Env) : Env := compEnvC scope ((x, c) :: cl) C env

theorem lookup_relabel_cell {env : Env} : ∀ {names : List (Str × NameKind)} {x : Str}, names.lookup x = some .cell →
    (names.map fun (n, k) => if (k == NameKind.free && env.scope.kind == .function && env.kindOf n == some .cell) then (n, NameKind.cell) else (n, k)).lookup x = some .cell
  | [], _, h => by simp at h
  | (n, k) :: r, x, h => by
    have ih := @lookup_relabel_cell env r x
    show List.lookup x ((if (k == NameKind.free && env.scope.kind == .function && env.kindOf n == some .cell) = true then (n, NameKind.cell) else (n, k)) :: _) = _
    cases hx : x == n with
    | true =>
      simp only [List.lookup_cons, hx] at h
      cases h
      simp [List.lookup_cons, hx]
    | false =>
      simp only [List.lookup_cons, hx] at h
      by_cases hc : (k == NameKind.free && env.scope.kind == .function && env.kindOf n == some .cell) = true
      · rw [if_pos hc]; simp only [List.lookup_cons, hx]; exact ih h
      · rw [if_neg hc]; simp only [List.lookup_cons, hx]; exact ih h

def TurnC (prog : Program) (w : World) (A : Around) (h₀ : Heap) (L : Addr) (m : Str → Option Value) (env : Env) (ct elt : Expr) (x : Str) (scope : Scope) (cl : List (Str × Addr)) (s : Shared) (ks : List Int) (q : Int → Bool) (news : List (Addr × Obj)) : Prop :=
  ∀ k t I oI C oC D c oc ys l h tk (E' : Value → Shared → Prop), k ∈ ks → IntsAre ys l → oc.data = .cell (some (.int k t)) → Fr h₀ L h m → News h₀ L h ((I, oI) :: (C, oC) :: (D, lst ys) :: (c, oc) :: news) → Off3 I C D ((c, oc) :: news) → ((@Ne Nat I C) ∧ (@Ne Nat I D) ∧ (@Ne Nat C D)) → Off1 c news → KPfMark →
    wpAny (model prog w) A (isTrue ct (cellEnv scope x c cl C env) (eval ct (cellEnv scope x c cl C env))) (fun b s' => b = q k ∧ if b = true then
      wpAny (model prog w) A (eval elt (cellEnv scope x c cl C env)) (CompEnd h₀ L m { s with heap := h, toks := tk } I oI C oC D (lst ys) (fun _ => True) (fun y news' => news' = (c, oc) :: news ∧ ∃ t, y = .int k t)) E' s'
      else CompEnd h₀ L m { s with heap := h, toks := tk } I oI C oC D (lst ys) (fun _ => True) (fun _ news' => news' = (c, oc) :: news) Value.none s') E' { s with heap := h, toks := tk }

theorem Off1.of {D : Addr} : ∀ {l : List (Addr × Obj)}, (∀ p ∈ l, p.1 ≠ D) → Off1 D l
  | [], _ => trivial
  | _ :: _, h => ⟨h _ List.mem_cons_self, Off1.of fun p hp => h p (List.mem_cons_of_mem _ hp)⟩
theorem Off1.mem {D : Addr} : ∀ {l : List (Addr × Obj)}, Off1 D l → ∀ p ∈ l, p.1 ≠ D
  | [], _, _, h => nomatch h
  | _ :: _, x, p, h => by
    rcases List.mem_cons.mp h with rfl | h
    · exact x.1
    · exact Off1.mem x.2 p h

inductive CellInv (h₀ : Heap) (L : Addr) (m : Str → Option Value) (St : Nat → Heap → Prop) (D C c : Addr) (news : List (Addr × Obj)) (ks : List Int) (q : Int → Bool) (s₂ : Shared) (k : Nat) : Shared → Prop
  | mk (h' : Heap) (tk i : Nat) (ys : List Value) (m' : Str → Option Value) (oc : Obj) (v : Option Value) (hi : i ≤ ks.length) (hk : k = ks.length + 1 - i) (hl : ys.length ≤ i) (hst : St i h') (F : Fr h₀ L h' m) (hn : h'.Ns C m') (hd : oc.data = .cell v)
    (N : News h₀ L h' ((D, lst ys) :: (c, oc) :: news)) (hI : IntsAre ys ((ks.take i).filter q)) : CellInv h₀ L m St D C c news ks q s₂ k { s₂ with heap := h', toks := tk }
theorem block_C {ct elt iter : Expr} {x : Str} {px : Pos} {scope : Scope} {cl : List (Str × Addr)} {pos : Pos} {s₂ : Shared} {I : Addr} {fp : List Addr} {P : Nat → Value → Prop} {St : Nat → Heap → Prop} {news : List (Addr × Obj)} {ks : List Int} {q : Int → Bool}
    {Fin : List Value → List (Addr × Obj) → Prop} {RR : Value → Addr → Result → Shared → Prop}
    (W : Walks prog w A I fp [I] ks.length P St) (hP : ∀ i v, i < ks.length → P i v → ∃ k t, ks[i]? = some k ∧ v = .int k t) (hsz : ks.length ≤ sizeLine) (hIo : ∀ i h, St i h → ∃ o, h.get? I = some o)
    (hSt : ∀ i h h' o, St i h → h.get? I = some o → h'.get? I = some o → (∀ b o, h₀.get? b = some o → h'.get? b = some o) → News h₀ L h' news → St i h')
    (hcell : ∀ n acc, cellsFrom n scope.names acc = (x, n) :: acc) (hkind : scope.kind = .function) (hx : scope.names.lookup x = some .cell) (hst : St 0 s₂.heap) (hfp : ∀ b ∈ fp, b < s₂.heap.objs.size)
    (F : Fr h₀ L s₂.heap m) (N : News h₀ L s₂.heap news) (hIL : L ≠ I) (hI₀ : h₀.get? I = none) (off : ∀ p ∈ news, p.1 ≠ I)
    (R : TurnC prog w A h₀ L m env ct elt x scope cl s₂ ks q news) (fin : ∀ ys, IntsAre ys (ks.filter q) → Fin ys news)
    (hRR : ∀ D C h tk m' ys, Fr h₀ L h m → News h₀ L h ((D, lst ys) :: news) → Off1 D news → h.Ns C m' → h₀.get? C = none → h₀.get? D = none → C ≠ L → D ≠ L → C ≠ D → (∀ p ∈ news, p.1 ≠ C) → Fin ys news → RR (.ref D) C (.ok .next) { s₂ with heap := h, toks := tk }) :
    wpAny (model prog w) A (newList []) (fun acc s₃ => wpAny (model prog w) A (newFunctionEnv scope env.globals cl [] env.qual none .none (some env)) (fun cenv s₄ =>
      codeAny (model prog w) A (.compStart (.ListComp elt [⟨.Name x px, iter, [ct], 0⟩] scope pos) 0 (.ref I) acc { cenv with scope := relabel scope env }) (RR acc cenv.locals) s₄) E s₃) E s₂ := by
  refine wpAny_newObj_type (newEnv_cell hkind hcell (fun h₁ oc hC₁ hc₁ hdc old₁ hns₁ => ?_))
  dsimp only at hns₁ hC₁ hc₁ old₁ ⊢
  generalize hH2 : s₂.heap.push { cls := .type "list", dict := none, data := .seq ([] : List Value).toArray } = H2 at hns₁ hC₁ hc₁ old₁ ⊢
  have hC : H2.objs.size = s₂.heap.objs.size + 1 := by rw [← hH2, Heap.size_push]
  have hDC : s₂.heap.objs.size ≠ H2.objs.size := by rw [hC]; exact Nat.ne_of_lt (Nat.lt_succ_self _)
  have hDc : s₂.heap.objs.size ≠ H2.objs.size + 1 := by rw [hC]; exact Nat.ne_of_lt (by (first | lia | omega))
  have hCc : H2.objs.size ≠ H2.objs.size + 1 := Nat.ne_of_lt (Nat.lt_succ_self _)
  have below : ∀ b, b < s₂.heap.objs.size → b ≠ H2.objs.size ∧ b ≠ s₂.heap.objs.size ∧ b ≠ H2.objs.size + 1 := fun b hb => ⟨by rw [hC]; exact Nat.ne_of_lt (Nat.lt_succ_of_lt hb), Nat.ne_of_lt hb, by rw [hC]; exact Nat.ne_of_lt (Nat.lt_succ_of_lt (Nat.lt_succ_of_lt hb))⟩
  have hDf : s₂.heap.objs.size ∉ fp := fun hm => Nat.lt_irrefl _ (hfp _ hm)
  have hcf : H2.objs.size + 1 ∉ fp := fun hm => (below _ (hfp _ hm)).2.2 rfl
  have hIf : I ∈ fp := W.sub I (List.mem_singleton.mpr rfl)
  have hIlt : I < s₂.heap.objs.size := hfp I hIf
  have old : ∀ b o, s₂.heap.get? b = some o → h₁.get? b = some o := fun b o e => old₁ b o (hH2 ▸ Heap.get?_push_of_some _ e)
  have hacc : h₁.get? s₂.heap.objs.size = some (lst []) := old₁ _ _ (hH2 ▸ Heap.get?_push_size _ rfl)
  have hst₁ : St 0 h₁ := W.frame _ _ _ hst fun b _ o e => old b o e
  have fresh : ∀ a, s₂.heap.objs.size ≤ a → s₂.heap.get? a = none := fun a ha => by
    cases e : s₂.heap.get? a with
    | none => rfl
    | some o' => exact absurd (Heap.lt_size e) (Nat.not_lt.mpr ha)
  have fresh₀ : ∀ a, s₂.heap.objs.size ≤ a → h₀.get? a = none := fun a ha => by
    cases e : h₀.get? a with
    | none => rfl
    | some o' => have := F.keep a o' e; rw [fresh a ha] at this; cases this
  have hD₀ : h₀.get? s₂.heap.objs.size = none := fresh₀ _ (Nat.le_refl _)
  have hC₀ : h₀.get? H2.objs.size = none := fresh₀ _ (by rw [hC]; exact Nat.le_succ _)
  have hc₀ : h₀.get? (H2.objs.size + 1) = none := fresh₀ _ (by rw [hC]; (first | lia | omega))
  have hLlt : L < s₂.heap.objs.size := F.ns.lt
  have hDL : s₂.heap.objs.size ≠ L := Ne.symm (below L hLlt).2.1
  have hCL : H2.objs.size ≠ L := Ne.symm (below L hLlt).1
  have hcL : H2.objs.size + 1 ≠ L := Ne.symm (below L hLlt).2.2
  have hCI : I ≠ H2.objs.size := (below I hIlt).1
  have hDI : I ≠ s₂.heap.objs.size := (below I hIlt).2.1
  have hcI : I ≠ H2.objs.size + 1 := (below I hIlt).2.2
  have offn : ∀ p ∈ news, p.1 ≠ I ∧ p.1 ≠ H2.objs.size ∧ p.1 ≠ s₂.heap.objs.size ∧ p.1 ≠ H2.objs.size + 1 := fun p hp => ⟨off p hp, below _ (Heap.lt_size (N p hp).1)⟩
  have off3 : ∀ oc, Off3 I H2.objs.size s₂.heap.objs.size ((H2.objs.size + 1, oc) :: news) := fun oc => ⟨⟨Ne.symm hcI, Ne.symm hCc, Ne.symm hDc⟩, Off3.of fun p hp => ⟨(offn p hp).1, (offn p hp).2.1, (offn p hp).2.2.1⟩⟩
  have offc : Off1 (H2.objs.size + 1) news := Off1.of fun p hp => (offn p hp).2.2.2
  have loop : ∀ s₃ : Shared, s₃ = { s₂ with heap := h₁ } →
      codeAny (model prog w) A (.compLoop (.ListComp elt [⟨.Name x px, iter, [ct], 0⟩] scope pos) 0 (.ref I) (.ref s₂.heap.objs.size) (cellEnv scope x (H2.objs.size + 1) cl H2.objs.size env))
        (RR (.ref s₂.heap.objs.size) H2.objs.size) s₃ := by
    rintro s₃ rfl
    refine codeAny_compLoop_tests
      (CellInv h₀ L m St s₂.heap.objs.size H2.objs.size (H2.objs.size + 1) news ks q s₂) ?_ (ks.length + 1)
      (.mk h₁ _ 0 [] _ oc _ (Nat.zero_le _) rfl (Nat.le_refl _) hst₁ (F.keeps old) hns₁ hdc (fun p hp => ?_) .nil)
    · rintro k s' ⟨h', tk, i, ys, m', oc, v₀, hi, rfl, hyl, hst', F', hn', hdc, N', hI⟩
      by_cases hlt : i < ks.length
      · refine W.item i _ _ _ hlt hst' fun v h₂ tk₂ hPv hst₂ hk₂ => ?_
        obtain ⟨k, t, hk, rfl⟩ := hP i v hlt hPv
        have N₂ : News h₀ L h₂ ((s₂.heap.objs.size, lst ys) :: (H2.objs.size + 1, oc) :: news) := news_but N' hk₂ fun p hp => by
          rcases List.mem_cons.mp hp with rfl | hp
          · exact Ne.symm hDI
          · rcases List.mem_cons.mp hp with rfl | hp
            · exact Ne.symm hcI
            · exact (offn p hp).1
        have hn₂ : h₂.Ns H2.objs.size m' := hn'.at' fun o e => hk₂ _ o (by simpa using Ne.symm hCI) e
        have zc := (N₂ (H2.objs.size + 1, oc) (List.mem_cons_of_mem _ List.mem_cons_self)).1
        refine wpAny_assign_Name (wpAny_storeName_cell (env := cellEnv scope x (H2.objs.size + 1) cl H2.objs.size env) (c := H2.objs.size + 1) (v₀ := v₀) (by simp [compEnvC, relabel, hkind]) (lookup_relabel_cell hx) (by simp [compEnvC]) ⟨oc, zc, hdc⟩ (fun h₃ hv₃ hs₃ => ?_))
        obtain ⟨oc₃, hoc₃, hdc₃⟩ := hv₃
        refine wpAny_tests_one ?_
        have hst₃ : St (i + 1) h₃ := W.frame _ _ _ hst₂ fun b hb o e => hs₃.extBut b o (fun q => hcf (by have q' : b = H2.objs.size + 1 := q; rw [← q']; exact hb)) e
        obtain ⟨oI, heI⟩ := hIo _ _ hst₃
        have hn₃ : h₃.Ns H2.objs.size m' := hn₂.sameBut hs₃ hCc
        obtain ⟨oC, heC, hoC⟩ := ns_obj hn₃
        have F₃ : Fr h₀ L h₃ m := (fr_but F' hk₂ hIL hI₀).change hs₃ hcL hc₀
        have N₃ : News h₀ L h₃ ((I, oI) :: (H2.objs.size, oC) :: (s₂.heap.objs.size, lst ys) :: (H2.objs.size + 1, oc₃) :: news) := fun p hp => by
          rcases List.mem_cons.mp hp with rfl | hp
          · exact ⟨heI, Ne.symm hIL, hI₀⟩
          · rcases List.mem_cons.mp hp with rfl | hp
            · exact ⟨heC, hCL, hC₀⟩
            · rcases List.mem_cons.mp hp with rfl | hp
              · have z := N₂ _ List.mem_cons_self
                exact ⟨hs₃.extBut _ _ hDc z.1, z.2⟩
              · rcases List.mem_cons.mp hp with rfl | hp
                · exact ⟨hoc₃, hcL, hc₀⟩
                · have z := N₂ p (List.mem_cons_of_mem _ (List.mem_cons_of_mem _ hp))
                  exact ⟨hs₃.extBut _ _ (offn p hp).2.2.2 z.1, z.2⟩
        have htake : (ks.take (i + 1)).filter q = (ks.take i).filter q ++ if q k = true then [k] else [] := by
          rw [List.take_add_one, hk, List.filter_append]
          congr 1
          by_cases hq : q k = true
          · simp [hq]
          · simp [hq]
        refine wpAny_mono (R k t I oI H2.objs.size oC s₂.heap.objs.size (H2.objs.size + 1) oc₃ ys _ h₃ _ _ (List.mem_of_getElem? hk) hI hdc₃ F₃ N₃ (off3 _) ⟨hCI, hDI, Ne.symm hDC⟩ offc True.intro) (fun ok s₄ h₄ => ?_) fun _ _ e => e
        obtain ⟨hok, h₄⟩ := h₄
        cases ok with
        | true =>
          simp only [if_true] at h₄ ⊢
          refine wpAny_mono h₄ (fun y s₅ h₅ => ?_) fun _ _ e => e
          obtain ⟨h₄, tk₄, news₄, rfl, F₄, N₄, off₄, hS₄, rfl, t', rfl⟩ := h₅
          have zI := (N₄ (I, oI) List.mem_cons_self).1
          have zC := (N₄ (H2.objs.size, oC) (List.mem_cons_of_mem _ List.mem_cons_self)).1
          have zD := (N₄ (s₂.heap.objs.size, lst ys) (List.mem_cons_of_mem _ (List.mem_cons_of_mem _ List.mem_cons_self))).1
          have N₄' : News h₀ L h₄ ((H2.objs.size + 1, oc₃) :: news) := fun p hp => N₄ p (List.mem_cons_of_mem _ (List.mem_cons_of_mem _ (List.mem_cons_of_mem _ hp)))
          have hst₄ : St (i + 1) h₄ := hSt _ _ _ _ hst₃ heI zI F₄.keep fun p hp => N₄' p (List.mem_cons_of_mem _ hp)
          refine append_at (hsz := by show ys.toArray.size ≤ sizeLine; rw [List.size_toArray]; exact Nat.le_trans (Nat.le_trans hyl hi) hsz) zD fun h₅ hs₅ hD₅ => ?_
          refine ⟨ks.length + 1 - (i + 1), by (first | lia | omega), .mk h₅ tk₄ (i + 1) (ys ++ [.int k t']) _ oc₃ _ hlt rfl (by rw [List.length_append, List.length_singleton]; exact Nat.succ_le_succ hyl) (W.frame _ _ _ hst₄ fun b hb o e => hs₅.extBut b o (fun q => hDf (q ▸ hb)) e) (F₄.change hs₅ hDL hD₀)
            ((hoC.ns zC).sameBut hs₅ (Ne.symm hDC)) hdc₃ (fun p hp => ?_) ?_⟩
          · rcases List.mem_cons.mp hp with rfl | hp
            · exact ⟨hD₅.trans (congrArg some (lst_snoc ys _)), hDL, hD₀⟩
            · refine ⟨hs₅.extBut _ _ ?_ (N₄' p hp).1, (N₄' p hp).2⟩
              rcases List.mem_cons.mp hp with rfl | hp
              · exact Ne.symm hDc
              · exact (offn p hp).2.2.1
          · rw [htake, ← hok, if_pos rfl]
            exact hI.append (.cons k t' .nil)
        | false =>
          simp only [Bool.false_eq_true, if_false] at h₄ ⊢
          obtain ⟨h₅, tk₄, news₄, rfl, F₄, N₄, off₄, hS₄, rfl⟩ := h₄
          have zI := (N₄ (I, oI) List.mem_cons_self).1
          have zC := (N₄ (H2.objs.size, oC) (List.mem_cons_of_mem _ List.mem_cons_self)).1
          have N₄' : News h₀ L h₅ ((H2.objs.size + 1, oc₃) :: news) := fun p hp => N₄ p (List.mem_cons_of_mem _ (List.mem_cons_of_mem _ (List.mem_cons_of_mem _ hp)))
          have hst₄ : St (i + 1) h₅ := hSt _ _ _ _ hst₃ heI zI F₄.keep fun p hp => N₄' p (List.mem_cons_of_mem _ hp)
          refine ⟨ks.length + 1 - (i + 1), by (first | lia | omega), .mk h₅ tk₄ (i + 1) ys _ oc₃ _ hlt rfl (Nat.le_succ_of_le hyl) hst₄ F₄ (hoC.ns zC) hdc₃ (fun p hp => ?_) ?_⟩
          · rcases List.mem_cons.mp hp with rfl | hp
            · exact N₄ _ (List.mem_cons_of_mem _ (List.mem_cons_of_mem _ List.mem_cons_self))
            · exact N₄' p hp
          · rw [htake, ← hok, if_neg Bool.false_ne_true, List.append_nil]
            exact hI
      · obtain rfl : i = ks.length := Nat.le_antisymm hi (Nat.not_lt.mp hlt)
        refine W.done _ _ _ hst' fun h₂ tk₂ hk₂ => ?_
        rw [List.take_length] at hI
        exact hRR _ _ h₂ tk₂ _ ys (fr_but F' hk₂ hIL hI₀) (news_but (news := (s₂.heap.objs.size, lst ys) :: news) (fun p hp => N' p (by
            rcases List.mem_cons.mp hp with rfl | hp
            · exact List.mem_cons_self
            · exact List.mem_cons_of_mem _ (List.mem_cons_of_mem _ hp))) hk₂ fun p hp => by
          rcases List.mem_cons.mp hp with rfl | hp
          · exact Ne.symm hDI
          · exact (offn p hp).1) (Off1.of fun p hp => (offn p hp).2.2.1) (hn'.at' fun o e => hk₂ _ o (by simpa using Ne.symm hCI) e) hC₀ hD₀ hCL hDL (Ne.symm hDC) (fun p hp => (offn p hp).2.1) (fin ys hI)
    · rcases List.mem_cons.mp hp with rfl | hp
      · exact ⟨hacc, hDL, hD₀⟩
      · rcases List.mem_cons.mp hp with rfl | hp
        · exact ⟨hc₁, hcL, hc₀⟩
        · exact ⟨old _ _ (N p hp).1, (N p hp).2⟩
  exact codeAny_compStart_list (loop _ rfl) (W.self 0 _ _ _ hst₁ (loop _ rfl))
end
section
variable {prog : Program} {w : World} {A : Around} {h₀ : Heap} {L : Addr} {m : Str → Option Value} {env : Env}
end

end
theorem xor_one {k : Int} (h0 : 0 ≤ k) (h8 : k < 8) : Builtin.bitXor k 1 = ((flip k.toNat : Nat) : Int) := by
  have key : ∀ n : Fin 8, Builtin.bitXor ((n.val : Nat) : Int) 1 = ((flip n.val : Nat) : Int) := by decide +kernel
  have := key ⟨k.toNat, by (first | lia | omega)⟩
  rwa [show ((k.toNat : Nat) : Int) = k by (first | lia | omega)] at this
theorem xor_K {prog : Program} {w : World} {A : Around} {E : Value → Shared → Prop} {s : Shared} {k : Int} {t u : Tok} {m : Nat} {Q : Value → Shared → Prop} (h0 : 0 ≤ k) (hm : k < 2 * (m : Int)) (h4 : m ≤ 4)
    (h : 0 ≤ ((flip k.toNat : Nat) : Int) → ((flip k.toNat : Nat) : Int) < 2 * (m : Int) → Q (.int (flip k.toNat : Nat) s.toks) { s with toks := s.toks + 1 }) : wpAny (model prog w) A (binaryOp .BitXor (.int k t) (.int 1 u)) Q E s := by
  refine xor_int ?_
  rw [xor_one h0 (by (first | lia | omega))]
  have := flip_lt (m := m) (x := k.toNat) (by (first | lia | omega))
  exact h (by (first | lia | omega)) (by (first | lia | omega))
/-- the fields' list -/
def fiel (ks : List Int) : List Int := (List.range ks.length).map fun i => ks.getD (flip i) 0
theorem fiel_eq {ks : List Int} {m : Nat} (hr : KBa.In ks) (hm : ks.length = 2 * m) : ((rangeKs 0 (↑ks.length - 0 : Int).toNat).map fun k' =>
    if 0 ≤ ((flip k'.toNat : Nat) : Int) ∧ ((flip k'.toNat : Nat) : Int) < 2 * (m : Int) ∧ 0 ≤ ks.getD (((flip k'.toNat : Nat) : Int)).toNat 0 ∧ ks.getD (((flip k'.toNat : Nat) : Int)).toNat 0 < 256 then ks.getD (((flip k'.toNat : Nat) : Int)).toNat 0 else k') = fiel ks := by
  rw [show (↑ks.length - 0 : Int).toNat = ks.length by (first | lia | omega)]
  unfold rangeKs fiel
  rw [List.map_map]
  refine List.map_congr_left fun k hk => ?_
  simp only [Function.comp]
  rw [show ((0 : Int) + (k : Int)).toNat = k by (first | lia | omega)]
  have hk' := List.mem_range.mp hk
  have := flip_lt (m := m) (x := k) (by (first | lia | omega))
  exact if_pos ⟨by (first | lia | omega), by (first | lia | omega), KBw.getD_in hr⟩

set_option maxHeartbeats 1000000 in
theorem fields_tells (w : World) (loose : List Str) (mean : ExcName → Option Value) (mg mb : Str → Option Value) (x : Array UInt8) (t : Tok) (ks : List Int) (hk : KBw.bInts x = ks) (m : Nat) (hm : ks.length = 2 * m) (hm1 : 1 ≤ m) (hm4 : m ≤ 4) :
    Tells Challenge.rw_ic0001_01.row.toRowW.prog w (Mine.hd.heap_39 w.params) Mine.hd.view_39 loose mean mg mb 51 3 40 [.bytes x t] (fun _ => True) (fun _ r => ∃ y t, r = .bytes y t ∧ KBw.bInts y = fiel ks) := by
  w_top off
  k_fill
  k_with_none
  k_with "binaryOp BitXor int int" => (k_here; (refine' xor_K ?qw_h0 ?qw_hm ?qw_h4 ?_; (case qw_h4 => assumption); (case qw_h0 => (first | lia | omega)); (case qw_hm => (first | lia | omega))); intro _ _)
  unfold Tells
  intro dp un fr gd s Q E X T hd hu _ hret
  have hin := bInts_in hk
  k_dflt (refine' enterC ?k1 ?k2 ?k3 ?k4 ?k5 ?k6 ?k7 ?k8 ?c1 ?c2 ?c3 ?_; (case k1 => assumption); (case k2 => assumption); (case k3 => k_is); (case k4 => k_is); (case k5 => ktr_room); (case k6 => first | exact BindsTo.of_eq rfl | exact binds_K (by k_in) rfl (by k_is) rfl rfl rfl); (case k7 => exact rfl); (case k8 => decide +kernel); (case c1 => exact rfl); (case c2 => exact rfl); (case c3 => exact rfl); k_whole; intro h' tk' cells' F' N' Y'; k_cells Y'; (try dsimp only); (try k_fold))
  k_steps
  refine hret _ _ _ (Fr.keep (by assumption)) ⟨_, _, rfl, (KBa.ints_make (by assumption)).trans ?_⟩
  exact fiel_eq hin hm

/-- a goal that the walker leaves -/
def Later (P : Prop) : Prop := P
theorem Later.out {P : Prop} (h : Later P) : P := h
theorem frame1 {h₀ h : Heap} {L : Addr} {m : Str → Option Value} {a : Str} {u : Value} (F : Fr h₀ L h m) (ha : m a = some u) : Fr h₀ L h (fun z => if z = a then some u else m z) := by
  have e : (fun z => if z = a then some u else m z) = m := by
    funext z
    by_cases hz : z = a
    · subst hz; simp [ha]
    · simp [hz]
  rw [e]; exact F
theorem frame_in {h₀ h : Heap} {L : Addr} {m : Str → Option Value} {a b : Str} {u v : Value} (F : Fr h₀ L h (fun z => if z = b then some v else m z)) (ha : m a = some u) : Fr h₀ L h (fun z => if z = b then some v else if z = a then some u else m z) := by
  have e : (fun z => if z = a then some u else m z) = m := by
    funext z
    by_cases hz : z = a
    · subst hz; simp [ha]
    · simp [hz]
  have e' : (fun z => if z = b then some v else if z = a then some u else m z) = (fun z => if z = b then some v else m z) := by
    funext z
    exact congrArg (fun g => if z = b then some v else g) (congrFun e z)
  rw [e']; exact F
inductive Inn : List (Addr × Obj) → List Value → List (List Int) → Prop
  | nil : Inn [] [] []
  | snoc {inner refs rs c vs k r} : Inn inner refs rs → IntsAre vs r → Inn (inner ++ [(c, PySem.W.listOf (vs : List Value).toArray k)]) (refs ++ [.ref c]) (rs ++ [r])
theorem news_sub {h₀ h : Heap} {L : Addr} {a b : List (Addr × Obj)} (N : News h₀ L h a) (s : ∀ p ∈ b, p ∈ a) : News h₀ L h b := fun p hp => N p (s p hp)
section
variable {prog : Program} {w : World} {A : Around} {E : Value → Shared → Prop} {s : Shared} {env : Env} {h₀ : Heap} {x : Str} {body : List Stmt} {Q : Flow → Shared → Prop}
theorem iter_rangeD {r : Addr} {a₀ b₀ c₀ : Int} {t₀ u₀ v₀ : Tok} {n : Nat} {m₀ : Str → Option Value} {news : List (Addr × Obj)} (J : Nat → (Str → Option Value) → List (Addr × Obj) → Prop)
    (hh : A.handled = none) (hr : IsRange s.heap r a₀ b₀ c₀ t₀ u₀ v₀) (hsmall : Builtin.Range.small a₀ b₀ c₀ = true) (hn : Builtin.Range.rangeSize a₀ b₀ c₀ = (n : Int)) (F : Fr h₀ env.locals s.heap m₀) (N : News h₀ env.locals s.heap news) (hj : J 0 m₀ news)
    (turn : ∀ (i : Nat) t m₁ nx h tk own, i < n → OwnOff own (nx.map (·.1)) → J i m₁ nx → Fr h₀ env.locals h (fun y => if y = x then some (.int (a₀ + (i : Int) * c₀) t) else m₁ y) → News h₀ env.locals h (nx ++ own) →
      wpAny (model prog w) A (execs body env) (InvPostG h₀ env.locals (J (i + 1)) own { s with heap := h, toks := tk } Q) E { s with heap := h, toks := tk })
    (done : ∀ m₁ nx h tk, J n m₁ nx → Fr h₀ env.locals h m₁ → News h₀ env.locals h nx → Q .next { s with heap := h, toks := tk }) :
    wpAny (model prog w) A (pyIter (.ref r)) (fun it s₂ => LoopAtV prog w A h₀ env x body Q E it s₂) E s := by
  refine wpAny_pyIter_range hr hsmall ?_
  have W : Walks prog w A s.heap.objs.size [s.heap.objs.size] [s.heap.objs.size] n (fun i v => i < n ∧ ∃ t, v = .int (a₀ + i * c₀) t)
      (fun i h => IsRangeIter h s.heap.objs.size (a₀ + (i : Nat) * c₀) ((n : Int) - (i : Nat)) c₀) := (Walks.range hh _ a₀ c₀ n).bound
  refine ⟨_, _, _, n, _, _, m₀, news, J, rfl, W, ?_, ?_, ?_, (by show IsRangeIter _ _ _ _ _; rw [hn]; simpa using Heap.get?_push_size _ rfl), F.push _, (fun p hp => ⟨Heap.get?_push_of_some _ (N p hp).1, (N p hp).2⟩), hj, ?_, ?_⟩
  · intro hm
    exact absurd F.ns.lt ((List.mem_singleton.mp hm) ▸ Nat.lt_irrefl _)
  · intro b hb
    rw [List.mem_singleton.mp hb]
    exact next_is_new F
  · intro p hp hI
    exact absurd (Heap.lt_size (N p hp).1) ((List.mem_singleton.mp hI) ▸ Nat.lt_irrefl _)
  · rintro i v m₁ news₁ s₁ own ⟨hh', tk', rfl⟩ hin hP hJ hoff hown _ hfp hst F₁ N₁
    obtain ⟨_, t, rfl⟩ := hP
    have hI0 : h₀.get? s.heap.objs.size = none := next_is_new F
    have hoI : hh'.get? s.heap.objs.size = some _ := hst
    have hIown := hfp _ (List.mem_singleton.mpr rfl) hI0 _ hoI
    have hsep : OwnOff own (news₁.map (·.1)) := by
      intro p hp b hb e
      obtain ⟨q, hq, rfl⟩ := List.mem_map.mp hb
      have h1 := List.mem_singleton.mp (hown p hp)
      exact hoff q hq (List.mem_singleton.mpr (e ▸ h1))
    have N₂ : News h₀ env.locals hh' (news₁ ++ own) := fun p hp => N₁ p ((List.mem_append.mp hp).elim (fun h => List.mem_append.mpr (.inr h)) fun h => List.mem_append.mpr (.inl h))
    refine wpAny_mono (turn i t m₁ news₁ hh' tk' own hin hsep hJ F₁ N₂) (fun f s₂ p => ?_) fun _ _ e => e
    have fin : InvEndG h₀ env.locals (J (i + 1)) own { s with heap := hh', toks := tk' } s₂ → LoopStepU h₀ env.locals [s.heap.objs.size] own (J (i + 1)) { s with heap := hh', toks := tk' } .next s₂ := by
      rintro ⟨h', tk, m', news', nx, e, F', N', hn, ho, ha, hm⟩
      refine ⟨rfl, h', tk, m', nx, e, F', fun p hp => N' p ((List.mem_append.mp hp).elim (ho p) (hn p)), fun p hp hq => ?_, hm⟩
      exact ha _ hIown p.1 (List.mem_map.mpr ⟨p, hp, rfl⟩) (List.mem_singleton.mp hq).symm
    cases f with
    | ret v => exact .ret p
    | brk => exact .brk p
    | next => exact .next (fin p)
    | cont => exact .cont (fin p)
  · rintro h' tk m' news' F' N' _ hJ
    exact done m' news' h' tk hJ F' N'
theorem iter_rangeG {r : Addr} {a₀ b₀ : Int} {t₀ u₀ v₀ : Tok} {n : Nat} {m₀ : Str → Option Value} {news : List (Addr × Obj)} (J : Nat → (Str → Option Value) → List (Addr × Obj) → Prop)
    (hh : A.handled = none) (hr : IsRange s.heap r a₀ b₀ 1 t₀ u₀ v₀) (hsmall : Builtin.Range.small a₀ b₀ 1 = true) (hn : Builtin.Range.rangeSize a₀ b₀ 1 = (n : Int)) (F : Fr h₀ env.locals s.heap m₀) (N : News h₀ env.locals s.heap news) (hj : J 0 m₀ news)
    (turn : ∀ (i : Nat) t m₁ nx h tk own, i < n → OwnOff own (nx.map (·.1)) → J i m₁ nx → Fr h₀ env.locals h (fun y => if y = x then some (.int (a₀ + (i : Int)) t) else m₁ y) → News h₀ env.locals h (nx ++ own) →
      wpAny (model prog w) A (execs body env) (InvPostG h₀ env.locals (J (i + 1)) own { s with heap := h, toks := tk } Q) E { s with heap := h, toks := tk })
    (done : ∀ m₁ nx h tk, J n m₁ nx → Fr h₀ env.locals h m₁ → News h₀ env.locals h nx → Q .next { s with heap := h, toks := tk }) :
    wpAny (model prog w) A (pyIter (.ref r)) (fun it s₂ => LoopAtV prog w A h₀ env x body Q E it s₂) E s :=
  iter_rangeD J hh hr hsmall hn F N hj (fun i t m₁ nx h tk own hi ho hJ F₁ N₁ => turn i t m₁ nx h tk own hi ho hJ (by rw [Int.mul_one] at F₁; exact F₁) N₁) done
end

/-- a call that leaves all that stood as it stood, with what it found -/
def TellsH (prog : Program) (w : World) (K : Frag) (p : Program) (loose : List Str) (mean : ExcName → Option Value) (mg mb : Str → Option Value) (f : Addr) (d u : Nat) (vs : List Value) (R : Heap → Heap → Value → Prop) : Prop :=
  ∀ (dp un : Nat) (fr : Option (List Env)) (gd : Option (List Code)) (s : Shared) (Q E : Value → Shared → Prop),
    K.In s.heap → Top p loose mean mg mb s.heap → dp + d < recursionLimit → un + u < cLine →
    (∀ r h' tk', Ext s.heap h' → R s.heap h' r → Q r { s with heap := h', toks := tk' }) →
    wpAny (model prog w) (around dp un fr gd) (call (.ref f) vs) Q E s
theorem use_tellsH {prog : Program} {w : World} {K : Frag} {p : Program} {loose : List Str} {mean : ExcName → Option Value} {mg mb : Str → Option Value} {f : Addr} {d u : Nat} {vs : List Value} {R : Heap → Heap → Value → Prop}
    {A : Around} {h₀ : Heap} {L : Addr} {m : Str → Option Value} {news : List (Addr × Obj)} {s : Shared} {Q E : Value → Shared → Prop} (C : TellsH prog w K p loose mean mg mb f d u vs R) (hh : A.handled = none)
    (F : Fr h₀ L s.heap m) (N : News h₀ L s.heap news) (X : K.In h₀) (T : Top p loose mean mg mb h₀) (hd : A.depth + d < recursionLimit) (hu : A.units + u < cLine)
    (h : ∀ r h' k, Ext s.heap h' → Fr h₀ L h' m → News h₀ L h' news → (∀ b, s.heap.get? b = none → b ≠ L ∧ h₀.get? b = none ∧ ∀ p ∈ news, p.1 ≠ b) → R s.heap h' r → Q r { s with heap := h', toks := k }) : wpAny (model prog w) A (call (.ref f) vs) Q E s := by
  obtain ⟨hd', dp, fr, gd, un⟩ := A
  cases hh
  refine C dp un fr gd s Q E (X.keeps F.keep) (T.keeps F.keep) hd hu fun r h' tk' keep hr => h r h' tk' keep (F.keptAll keep) (N.grown keep) (fun b hb => ⟨?_, ?_, ?_⟩) hr
  · rintro rfl
    obtain ⟨o, _, _, e, _⟩ := F.ns
    rw [hb] at e; cases e
  · cases e : h₀.get? b with
    | none => rfl
    | some o => have := F.keep b o e; rw [hb] at this; cases this
  · rintro p hp rfl
    have := (N p hp).1
    rw [hb] at this; cases this

section
variable {prog : Program} {w : World} {A : Around} {E : Value → Shared → Prop} {s : Shared} {env : Env} {h₀ : Heap} {x : Str} {body : List Stmt} {Q : Flow → Shared → Prop}
theorem bytes_ba_K {h₀ : Heap} {L D : Addr} {news : List (Addr × Obj)} {ns : List Int} {Q : Value → Shared → Prop} (N : News h₀ L s.heap news) (hm : (D, baObj (byteArr ns)) ∈ news) (hz : ns.length ≤ 1000)
    (h : ∀ t k, Q (.bytes (byteArr ns) t) { s with toks := k }) : wpAny (model prog w) A (call (.type "bytes") [.ref D]) Q E s :=
  bytes_ba (N _ hm).1 (by rw [byteArr_size]; exact hz) h
theorem size_one {c : Int} (h : 1 ≤ c) : Builtin.Range.rangeSize 0 c c = 1 := by
  unfold Builtin.Range.rangeSize
  rw [if_pos (by (first | lia | omega)), if_pos (by (first | lia | omega)), Int.ediv_eq_zero_of_lt (by (first | lia | omega)) (by (first | lia | omega))]
  rfl
theorem small_step {c : Int} (h : 1 ≤ c) (h' : c ≤ 1000) : Builtin.Range.small 0 c c = true := by
  unfold Builtin.Range.small
  rw [size_one h]
  simp only [Builtin.Range.rangeFitsLong, Bool.and_eq_true, Bool.or_eq_true, decide_eq_true_eq, beq_iff_eq, show c > 0 by (first | lia | omega), if_true]
  (first | lia | omega)
end
/-- the last j places stand as they shall -/
def Swd (ks ns : List Int) (j : Nat) : Prop := ns.length = ks.length ∧ ∀ i, i < j → i < ks.length → ns.getD (ks.length - 1 - i) 0 = ks.getD i 0
theorem Swd.init (ks : List Int) : Swd ks (List.replicate ks.length 0) 0 := ⟨List.length_replicate, fun i h => absurd h (Nat.not_lt_zero i)⟩
theorem Swd.step {ks ns : List Int} {j : Nat} (h : Swd ks ns j) (hj : j < ks.length) : Swd ks (ns.set (ks.length - 1 - j) (ks.getD j 0)) (j + 1) := by
  refine ⟨by rw [List.length_set]; exact h.1, fun i hi hl => ?_⟩
  rw [List.getD_eq_getElem?_getD, List.getElem?_set]
  by_cases e : j = i
  · subst e
    rw [if_pos rfl, if_pos (by rw [h.1]; (first | lia | omega))]; rfl
  · rw [if_neg (by (first | lia | omega)), ← List.getD_eq_getElem?_getD]
    exact h.2 i (by (first | lia | omega)) hl
theorem Swd.done {ks ns : List Int} (h : Swd ks ns ks.length) : ns = ks.reverse := by
  refine List.ext_getElem (by rw [List.length_reverse, h.1]) fun i h1 h2 => ?_
  have hl := h.1
  have := h.2 (ks.length - 1 - i) (by (first | lia | omega)) (by (first | lia | omega))
  rw [show ks.length - 1 - (ks.length - 1 - i) = i by (first | lia | omega), List.getD_eq_getElem?_getD, List.getElem?_eq_getElem h1, Option.getD_some, List.getD_eq_getElem?_getD, List.getElem?_eq_getElem (by (first | lia | omega)), Option.getD_some] at this
  rw [List.getElem_reverse, this]
theorem Swd.inn {ks ns : List Int} (h : Swd ks ns ks.length) (hin : KBa.In ks) : KBa.In ns := by
  rw [h.done]
  intro n hn
  exact hin n (List.mem_reverse.mp hn)

set_option maxHeartbeats 2000000 in
/-- the bytes' own swap, the whole at once -/
theorem swap_rev (w : World) (loose : List Str) (mean : ExcName → Option Value) (mg mb : Str → Option Value) (x : Array UInt8) (t u : Tok) (ks : List Int) (hk : KBw.bInts x = ks) (m : Nat) (ho : Ord ks m) :
    ∀ (dp un : Nat) (fr : Option (List Env)) (gd : Option (List Code)) (s : Shared) (Q E : Value → Shared → Prop),
    (Mine.hd.heap_39 w.params).In s.heap → Top Mine.hd.view_39 loose mean mg mb s.heap → dp + 3 < recursionLimit → un + 40 < cLine →
    (∀ y t' h' tk', Ext s.heap h' → KBw.bInts y = ks.reverse → Q (.bytes y t') { s with heap := h', toks := tk' }) →
    wpP (model Challenge.rw_ic0001_01.row.toRowW.prog w) (around dp un fr gd) (call (.ref 21) [.bytes x t, .int (2 * (m : Nat)) u]) Q E s := by
  have hin := bInts_in hk
  have h400 : ks.length ≤ 400 := by have := ho.len; have := ho.few; (first | lia | omega)
  have h2 : 1 ≤ ks.length := by have := ho.len; have := ho.pos; (first | lia | omega)
  rw [show (2 * (m : Int)) = (ks.length : Int) by have := ho.len; (first | lia | omega)]
  clear ho
  w_top off
  k_fill
  k_with_none
  k_with "exec For Name Call cons nil" => (k_here; (rename Fr _ _ _ _ => lF_w); (with_unfolding_all refine' For_invVF lF_w ?qw_k1 ?qw_k2 ?_; (case qw_k1 => exact rfl); (case qw_k2 => exact rfl); k_whole))
  k_with "setItem ref int" => (refine Later.out ?_)
  k_with "call type:bytes" => (k_here; (with_reducible show wpAny _ _ (call (Value.type "bytes") [Value.ref _]) _ _ _); (refine Later.out ?_))
  intro dp un fr gd s Q E X T hd hu hret
  k_dflt (refine' enterP ?k1 ?k2 ?k3 ?k4 ?k5 ?k6 ?k7 ?c1 ?c2 ?c3 ?c4 ?_; (case k1 => assumption); (case k2 => assumption); (case k3 => k_is); (case k4 => k_is); (case k5 => ktr_room); (case k6 => first | exact BindsTo.of_eq rfl | exact binds_K (by k_in) rfl (by k_is) rfl rfl rfl); (case k7 => exact locs rfl); (case c1 => exact rfl); (case c2 => exact rfl); (case c3 => exact rfl); (case c4 => decide); k_whole; intro h' F' N'; (try dsimp only))
  refine execs_consP (Assign_NameP (Call_P ?_))
  k_steps
  refine callWith_type1P ?_
  k_steps
  (with_reducible rename Fr _ _ _ _ => F'); (with_reducible rename News _ _ _ _ => N')
  refine ba_new_K F' N' (by (first | lia | omega)) (by (first | lia | omega)) ?_
  intro D' h' F' N' l1
  k_lt l1
  k_steps
  show wpP _ _ (execs _ _) _ _ _
  refine wpP_any ?_
  k_fold
  k_with "pyIter ref" => k_dflt ((with_reducible rename Fr _ _ _ _ => F9); (with_reducible rename News _ _ _ _ => N9); (refine' iter_rangeD (n := 1) (fun i m₁ nx => ∃ ns, nx = [(D', baObj (byteArr ns))] ∧ Swd ks ns (i * ks.length) ∧ m₁ (Str.ofString "swapped_data") = some (.ref D') ∧ m₁ (Str.ofString "data") = some (.bytes x t) ∧ m₁ (Str.ofString "width") = some (.int (ks.length : Nat) u)) rfl ?hr ?hs ?hn F9 ?N ?hJ (Later.out ?turn) (Later.out ?done)); (case hr => k_asm); (case hs => exact small_step (by (first | lia | omega)) (by (first | lia | omega))); (case hn => exact size_one (by (first | lia | omega))); (case hJ => exact ⟨List.replicate (ks.length : Int).toNat 0, rfl, by rw [Nat.zero_mul, Int.toNat_natCast]; exact Swd.init ks, rfl, rfl, rfl⟩); (case N => exact news_sub N9 (by kcf_all)))
  k_steps
  · unfold Later
    rintro i t1 m₁ nx h1 tk own hi hoff ⟨ns, rfl, hS, q1, q2, q3⟩ F' N'
    obtain rfl : i = 0 := by (first | lia | omega)
    replace F' : Fr s.heap s.heap.objs.size h1 (fun y => if y = Str.ofString "i" then some (.int (0 + ((0 : Nat) : Int) * (ks.length : Int)) t1) else m₁ y) := F'
    rw [Int.natCast_zero, Int.zero_mul, Int.zero_add] at F'
    rw [Nat.zero_mul] at hS
    replace N' : News s.heap s.heap.objs.size h1 ((D', baObj (byteArr ns)) :: own) := N'
    have F8 := frame_in (frame_in (frame_in F' q3) (m := fun z => if z = Str.ofString "width" then some (.int (ks.length : Nat) u) else m₁ z) ((if_neg (by decide)).trans q2)) (m := fun z => if z = Str.ofString "data" then some (.bytes x t) else if z = Str.ofString "width" then some (.int (ks.length : Nat) u) else m₁ z) ((if_neg (by decide)).trans ((if_neg (by decide)).trans q1))
    clear F'
    k_with "pyIter ref" => k_dflt ((with_reducible rename Fr _ _ _ _ => F9); (with_reducible rename News _ _ _ _ => N9); (refine' iter_rangeG (n := ks.length) (fun i m₁ nx => ∃ ns, nx = (D', baObj (byteArr ns)) :: own ∧ Swd ks ns i ∧ m₁ (Str.ofString "swapped_data") = some (.ref D') ∧ m₁ (Str.ofString "data") = some (.bytes x t) ∧ m₁ (Str.ofString "width") = some (.int (ks.length : Nat) u) ∧ m₁ (Str.ofString "i") = some (.int 0 t1)) rfl ?hr2 ?hs2 ?hn2 F9 ?N2 ?hJ2 (Later.out ?turn2) (Later.out ?done2)); (case hr2 => k_asm); (case hs2 => exact small_one (by (first | lia | omega)) (by (first | lia | omega)) (by (first | lia | omega)) (by (first | lia | omega))); (case hn2 => exact (rangeSize_nat _ _).trans (by (first | lia | omega))); (case hJ2 => exact ⟨ns, rfl, hS, rfl, rfl, rfl, rfl⟩); (case N2 => exact news_sub N9 (by kcf_all)))
    k_steps
    · unfold Later
      rintro j t2 m₂ nx h2 tk own2 hj hoff2 ⟨ns, rfl, hS, q1, q2, q3, q4⟩ F' N'
      replace F' : Fr s.heap s.heap.objs.size h2 (fun y => if y = Str.ofString "j" then some (.int (0 + (j : Int)) t2) else m₂ y) := F'
      rw [Int.zero_add] at F'
      replace N' : News s.heap s.heap.objs.size h2 ((D', baObj (byteArr ns)) :: (own ++ own2)) := N'
      have F8 := frame_in (frame_in (frame_in (frame_in F' q4) (m := fun z => if z = Str.ofString "i" then some (.int 0 t1) else m₂ z) ((if_neg (by decide)).trans q3)) (m := fun z => if z = Str.ofString "width" then some (.int (ks.length : Nat) u) else if z = Str.ofString "i" then some (.int 0 t1) else m₂ z) ((if_neg (by decide)).trans ((if_neg (by decide)).trans q2))) (m := fun z => if z = Str.ofString "data" then some (.bytes x t) else if z = Str.ofString "width" then some (.int (ks.length : Nat) u) else if z = Str.ofString "i" then some (.int 0 t1) else m₂ z) ((if_neg (by decide)).trans ((if_neg (by decide)).trans ((if_neg (by decide)).trans q1)))
      clear F'
      k_steps
      unfold Later
      (with_reducible rename Fr _ _ _ _ => F9)
      (with_reducible rename News _ _ _ _ => N9)
      have ei : (0 + (ks.length : Int) - 1 - (j : Int)).toNat = ks.length - 1 - j := by (first | lia | omega)
      have ej : ((0 : Int) + (j : Int)).toNat = j := by (first | lia | omega)
      have hl := hS.1
      have hv := KBw.getD_in (j := j) hin
      rw [ej]
      refine set_ba_K F9 N9 (Upd.head fun p hp => ?_) (by (first | lia | omega)) (by (first | lia | omega)) (by (first | lia | omega)) hv.1 hv.2 fun h3 F3 N3 => ?_
      · rcases List.mem_append.mp hp with hp | hp
        · exact hoff p hp _ (List.Mem.head _)
        · exact hoff2 p hp _ (List.Mem.head _)
      rw [ei] at N3
      clear F9 N9
      k_steps
      (with_reducible rename Fr _ _ _ _ => F9)
      exact InvEndG.intro (nx := (D', baObj (byteArr _)) :: own) F9 N3 ⟨_, rfl, hS.step hj, rfl, rfl, rfl, rfl⟩ hoff2 (fun p hp => (List.mem_append.mpr (.inl hp) : p ∈ ((D', baObj (byteArr _)) :: own) ++ own2)) (fun p hp => .tail _ (List.mem_append.mpr (.inr hp)))
    · unfold Later
      rintro m₂ nx h2 tk2 ⟨ns, rfl, hS, q1, q2, q3, q4⟩ F2 N2
      have F8 := frame1 (frame1 (frame1 F2 q3) (a := Str.ofString "data") (u := .bytes x t) ((if_neg (by decide)).trans q2)) (a := Str.ofString "swapped_data") (u := .ref D') ((if_neg (by decide)).trans ((if_neg (by decide)).trans q1))
      clear F2
      k_steps
      (with_reducible rename Fr _ _ _ _ => F9)
      exact InvEndG.intro (nx := [(D', baObj (byteArr _))]) F9 N2 ⟨ns, rfl, by rw [Nat.zero_add, Nat.one_mul]; exact hS, rfl, rfl, rfl⟩ hoff (fun p hp => by rw [List.mem_singleton.mp hp]; exact .head _) (fun p hp => .tail _ hp)
  · unfold Later
    rintro m₁ nx h1 tk1 ⟨ns, rfl, hS, q1, q2, q3⟩ F1 N1
    rw [Nat.one_mul] at hS
    have F8 := frame1 F1 q1
    clear F1
    k_steps
    unfold Later
    refine bytes_ba_K N1 (.head _) (by have := hS.1; (first | lia | omega)) fun t9 k9 => ?_
    k_steps
    exact hret _ _ _ _ (Fr.keep (by assumption)) ((KBa.ints_make (hS.inn hin)).trans hS.done)

section
theorem Inn.len {inner refs rs} (h : Inn inner refs rs) : refs.length = rs.length := by
  induction h with
  | nil => rfl
  | snoc _ _ ih => simp [ih]
theorem below_in : ∀ {ns : List Int} {x : Int}, ns.Pairwise (· ≤ ·) → (below ns x < ns.length → ns.getD (below ns x) 0 = x → x ∈ ns) ∧ (below ns x = ns.length → x ∉ ns) ∧ (ns.getD (below ns x) 0 ≠ x → below ns x < ns.length → x ∉ ns)
  | [], x, _ => ⟨fun h => absurd h (Nat.not_lt_zero _), (fun _ h => nomatch h), fun _ h => absurd h (Nat.not_lt_zero _)⟩
  | n :: ns, x, h => by
    obtain ⟨h1, h2⟩ := List.pairwise_cons.mp h
    obtain ⟨a, b, c⟩ := below_in (ns := ns) (x := x) h2
    by_cases hn : n < x
    · have e : below (n :: ns) x = below ns x + 1 := by simp [below, hn]
      rw [e]
      refine ⟨fun p q => List.mem_cons_of_mem _ (a (Nat.lt_of_succ_lt_succ p) q), fun p hm => ?_, fun q p hm => ?_⟩
      · rcases List.mem_cons.mp hm with rfl | hm
        · (first | lia | omega)
        · exact b (Nat.succ.inj p) hm
      · rcases List.mem_cons.mp hm with rfl | hm
        · (first | lia | omega)
        · exact c q (Nat.lt_of_succ_lt_succ p) hm
    · have e : below (n :: ns) x = 0 := below_nil_of fun y hy => by
        rcases List.mem_cons.mp hy with rfl | hy
        · (first | lia | omega)
        · have := h1 y hy; (first | lia | omega)
      rw [e]
      refine ⟨fun _ q => by have q : n = x := q; rw [q]; exact List.mem_cons_self, fun p => absurd p (by simp), fun q _ hm => ?_⟩
      have q : n ≠ x := q
      rcases List.mem_cons.mp hm with r | hm
      · exact q r.symm
      · have := h1 x hm; (first | lia | omega)

theorem Fnd.total {n : Nat} {f : Nat → Nat} (p : PermOn n f) {xs : List Nat} {rs : List (List Int)} (h : Fnd n f xs rs) : rs.flatten.length ≤ n := by
  have hd := h.nodup p
  have key : (rs.flatten.map Int.toNat).Nodup := by
    rw [List.Nodup, List.pairwise_map]
    refine List.Pairwise.imp_of_mem (fun {a b} ha hb hab e => hab ?_) hd
    have := h.low p ha; have := h.low p hb
    (first | lia | omega)
  have := nodup_le n _ key fun y hy => by
    obtain ⟨z, hz, rfl⟩ := List.mem_map.mp hy
    have := h.low p hz
    (first | lia | omega)
  rwa [List.length_map] at this
theorem Fnd.few {n : Nat} {f : Nat → Nat} {xs : List Nat} {rs : List (List Int)} (h : Fnd n f xs rs) : rs.length ≤ n := by
  rw [← h.len]
  refine nodup_le n xs ?_ h.dom
  rw [List.Nodup]
  refine h.apart.imp fun hab e => hab ?_
  subst e
  exact .refl _
theorem mem3 {P : Addr × Obj → Prop} {a b : Addr × Obj} {l : List (Addr × Obj)} (ha : P a) (hb : P b) (hl : ∀ p ∈ l, P p) : ∀ p ∈ a :: b :: l, P p := by
  intro p hp
  rcases List.mem_cons.mp hp with rfl | hp
  · exact ha
  · rcases List.mem_cons.mp hp with rfl | hp
    · exact hb
    · exact hl p hp
/-- what the rounds' walk hands back -/
def RingsOut (n : Nat) (f : Nat → Nat) (h h' : Heap) (r : Value) : Prop :=
  ∃ (a : Addr) (refs : List Value) (nf : Nat) (inner : List (Addr × Obj)) (xs : List Nat) (rs : List (List Int)), r = .ref a ∧ h.get? a = none ∧ h'.get? a = some (PySem.W.listOf refs.toArray nf) ∧
    (∀ p ∈ inner, h.get? p.1 = none ∧ h'.get? p.1 = some p.2 ∧ p.1 ≠ a) ∧ Inn inner refs rs ∧ Fnd n f xs rs ∧ ∀ y : Nat, y < n → (y : Int) ∈ rs.flatten
local macro_rules | `(tactic| k_all) => `(tactic| exact OwnOff.ne (by with_reducible assumption) (by first | exact List.Mem.head _ | exact List.Mem.tail _ (List.Mem.head _) | exact List.Mem.tail _ (List.Mem.tail _ (List.Mem.head _))))

theorem allLt_mem {d : Nat} : ∀ {l : List (Addr × Obj)}, AllLt d l → ∀ p ∈ l, @LT.lt Nat _ p.1 d
  | [], _, _, h => nomatch h
  | _ :: _, x, p, h => by
    rcases List.mem_cons.mp h with rfl | h
    · exact x.1
    · exact allLt_mem x.2 p h
theorem ownOff_nil (adr : List Addr) : OwnOff [] adr := fun p hp => by cases hp
inductive RJ (ks : List Int) (x : Array UInt8) (t : Tok) (i : Nat) (m₁ : Str → Option Value) : List (Addr × Obj) → Prop
  | mk (fa sb : Addr) (refs : List Value) (nf : Nat) (sv : List Value) (ns : Nat) (sl : List Int) (inner : List (Addr × Obj)) (rs : List (List Int)) (xs : List Nat)
    (hne : @Ne Nat fa sb) (hin : OwnOff inner [fa, sb]) (hI : Inn inner refs rs) (hsv : IntsAre sv sl) (hso : sl.Pairwise (· ≤ ·)) (hpe : sl.Perm rs.flatten)
    (hf : Fnd ks.length (fn ks) xs rs) (hall : ∀ j : Nat, j < i → (j : Int) ∈ rs.flatten) (q1 : m₁ (Str.ofString "found") = some (.ref fa)) (q2 : m₁ (Str.ofString "seen") = some (.ref sb)) (q3 : m₁ (Str.ofString "order") = some (.bytes x t)) :
    RJ ks x t i m₁ ((fa, PySem.W.listOf refs.toArray nf) :: (sb, PySem.W.listOf sv.toArray ns) :: inner)
/-- inside the ring's own loop -/
inductive RK (ks : List Int) (x : Array UInt8) (t : Tok) (i : Nat) (fa sb : Addr) (refs : List Value) (nf : Nat) (rest : List (Addr × Obj)) (rs : List (List Int)) (q : Nat) (m₂ : Str → Option Value) : List (Addr × Obj) → Prop
  | mk (rg : Addr) (rv : List Value) (nr : Nat) (sv2 : List Value) (ns2 : Nat) (sl2 r : List Int) (y : Int) (ty : Tok)
    (l8 : @LT.lt Nat _ fa rg ∧ @LT.lt Nat _ sb rg ∧ AllLt rg rest) (hrv : IntsAre rv r) (hsv : IntsAre sv2 sl2) (hso : sl2.Pairwise (· ≤ ·)) (hpe : sl2.Perm (rs.flatten ++ r)) (hpt : Part ks.length (fn ks) i r y) (hq : q + r.length = ks.length + 1)
    (g1 : m₂ (Str.ofString "ring") = some (.ref rg)) (g2 : m₂ (Str.ofString "here") = some (.int y ty)) (g3 : m₂ (Str.ofString "found") = some (.ref fa)) (g4 : m₂ (Str.ofString "seen") = some (.ref sb)) (g5 : m₂ (Str.ofString "order") = some (.bytes x t)) :
    RK ks x t i fa sb refs nf rest rs q m₂ ((rg, PySem.W.listOf rv.toArray nr) :: (fa, PySem.W.listOf refs.toArray nf) :: (sb, PySem.W.listOf sv2.toArray ns2) :: rest)
theorem cut_if {prog : Program} {w : World} {A : Around} {env : Env} {test : Expr} {body orelse : List Stmt} {pos : Pos} {Q : Flow → Shared → Prop} {E : Value → Shared → Prop} (s : Shared) {h : Heap} {tk : Nat} (P N : Prop)
    (h1 : wpAny (model prog w) A (isTrue test env (eval test env)) (fun b s' => Later ((∃ tk', s' = { s with heap := h, toks := tk' }) ∧ (b = true → P) ∧ (b = false → N))) E { s with heap := h, toks := tk })
    (h2 : P → ∀ tk', wpAny (model prog w) A (execs body env) Q E { s with heap := h, toks := tk' })
    (h3 : N → ∀ tk', wpAny (model prog w) A (execs orelse env) Q E { s with heap := h, toks := tk' }) : wpAny (model prog w) A (exec (.If test body orelse pos) env) Q E { s with heap := h, toks := tk } := by
  refine wpAny_If (wpAny_mono h1 (fun b s' p => ?_) fun _ _ p => p)
  obtain ⟨⟨tk', rfl⟩, hp, hn⟩ := p
  cases b with
  | true => exact h2 (hp rfl) tk'
  | false => exact h3 (hn rfl) tk'

theorem RJ.more {ks : List Int} {x : Array UInt8} {t : Tok} {i : Nat} {m₁ : Str → Option Value} {fa sb rg : Addr} {refs sv rv : List Value} {nf ns nr : Nat} {sl r : List Int} {inner own : List (Addr × Obj)} {rs : List (List Int)} {xs : List Nat}
    (hne : @Ne Nat fa sb) (hin : OwnOff inner [fa, sb]) (hI : Inn inner refs rs) (hrv : IntsAre rv r) (hsv : IntsAre sv sl) (hso : sl.Pairwise (· ≤ ·)) (hpe : sl.Perm (rs.flatten ++ r)) (hf : Fnd ks.length (fn ks) xs rs) (hp : PermOn ks.length (fn ks))
    (hr : Ring ks.length (fn ks) i r) (hn : (i : Int) ∉ rs.flatten) (hall : ∀ j : Nat, j < i → (j : Int) ∈ rs.flatten) (l8 : @LT.lt Nat _ fa rg ∧ @LT.lt Nat _ sb rg ∧ AllLt rg (inner ++ own))
    (q1 : m₁ (Str.ofString "found") = some (.ref fa)) (q2 : m₁ (Str.ofString "seen") = some (.ref sb)) (q3 : m₁ (Str.ofString "order") = some (.bytes x t)) :
    RJ ks x t (i + 1) m₁ ((fa, PySem.W.listOf (refs ++ [Value.ref rg]).toArray (nf + 1)) :: (sb, PySem.W.listOf sv.toArray ns) :: (inner ++ [(rg, PySem.W.listOf rv.toArray nr)])) := by
  refine .mk fa sb _ (nf + 1) sv ns sl _ (rs ++ [r]) (xs ++ [i]) hne ?_ (.snoc hI hrv) hsv hso ?_ (hf.add hp hr hn) ?_ q1 q2 q3
  · intro p hp b hb
    rcases List.mem_append.mp hp with hp | hp
    · exact hin p hp b hb
    · rw [List.mem_singleton.mp hp]
      rcases List.mem_cons.mp hb with rfl | hb
      · exact Nat.ne_of_gt l8.1
      · rw [List.mem_singleton.mp hb]; exact Nat.ne_of_gt l8.2.1
  · rw [List.flatten_append]
    simpa using hpe
  · intro j hj
    rw [List.flatten_append, List.mem_append]
    by_cases e : j = i
    · subst e
      refine .inr ?_
      simp only [List.flatten_cons, List.flatten_nil, List.append_nil]
      exact (ring_mem hp hr j).mpr (.refl _)
    · exact .inl (hall j (by (first | lia | omega)))
theorem own_off {fa sb rg : Addr} {a b c d e : Obj} {inner own : List (Addr × Obj)} (hoff : OwnOff own (((fa, a) :: (sb, b) :: inner).map (·.1))) (l8 : @LT.lt Nat _ fa rg ∧ @LT.lt Nat _ sb rg ∧ AllLt rg (inner ++ own)) :
    OwnOff own (((fa, c) :: (sb, d) :: (inner ++ [(rg, e)])).map (·.1)) := by
  intro p hp q hq
  simp only [List.map_cons, List.map_append, List.map_nil, List.mem_cons, List.mem_append, List.not_mem_nil, or_false] at hq
  have h := hoff p hp
  simp only [List.map_cons, List.mem_cons] at h
  rcases hq with rfl | rfl | hq | rfl
  · exact h _ (.inl rfl)
  · exact h _ (.inr (.inl rfl))
  · exact h _ (.inr (.inr hq))
  · exact Nat.ne_of_lt (allLt_mem l8.2.2 p (List.mem_append.mpr (.inr hp)))

set_option maxHeartbeats 1000000 in
theorem rings_tells (w : World) (loose : List Str) (mean : ExcName → Option Value) (mg mb : Str → Option Value) (x : Array UInt8) (t : Tok) (ks : List Int) (hk : KBw.bInts x = ks) (m : Nat) (ho : Ord ks m) :
    TellsH Challenge.rw_ic0001_01.row.toRowW.prog w (Mine.hd.heap_39 w.params) Mine.hd.view_39 loose mean mg mb 46 10 100 [.bytes x t] (RingsOut ks.length (fn ks)) := by
  w_top off
  k_fill
  k_with_none
  k_with "call ref" => (k_here; (with_reducible show wpAny _ _ (call (Value.ref 39) [Value.ref _, Value.int _ _]) _ _ _); (k_dflt (refine' use_tells (bisect2_tells _ _ _ _ _ _ _ _ _ _ ?qw_hI ?qw_hs ?qw_hz) ?qw_hh ?qw_F ?qw_N ?qw_X ?qw_T ?qw_d ?qw_u ?qw_p ?_; (case qw_p => exact News.isList (by k_asm) (by k_mem)); (case qw_hI => with_reducible assumption); (case qw_hs => with_reducible assumption); (case qw_hz => (first | lia | omega)); (case qw_hh => exact rfl); (case qw_F => k_asm); (case qw_N => k_asm); (case qw_X => assumption); (case qw_T => assumption); (case qw_d => ktr_room); (case qw_u => ktr_units))); intro r_w h_w k_w F_w N_w hr_w; obtain ⟨t_w, e9_w⟩ := hr_w; subst e9_w)
  k_with "exec For Name Call cons nil" => (k_here; (rename Fr _ _ _ _ => lF_w); (with_unfolding_all refine' For_invVF lF_w ?qw_k1 ?qw_k2 ?_; (case qw_k1 => exact rfl); (case qw_k2 => exact rfl); k_whole))
  k_with "exec If" => ((with_reducible show wpAny _ _ (exec (Stmt.If (Expr.BoolOp BoolOp.Or _ _) _ _ _) _) _ _ _); refine Later.out ?_)
  k_with "exec While BoolOp" => refine Later.out ?_
  k_with "call ref" => (k_here; (with_reducible show wpAny _ _ (call (Value.ref 30) [Value.ref _, Value.int _ _]) _ _ _); k_dflt (refine' insort_K ?qw_F ?qw_N (fun _ => Upd.tail ?qw_t1 (Upd.tail ?qw_t2 (Upd.head ?qw_off))) ?qw_X ?qw_T ?qw_hI ?qw_hs ?qw_hz ?qw_hh ?qw_d ?qw_u ?_; (case qw_F => k_asm); (case qw_N => k_asm); (case qw_off => exact OwnOff.ne (by with_reducible assumption) (List.Mem.tail _ (List.Mem.tail _ (List.Mem.head _)))); (case qw_t1 => k_ne); (case qw_t2 => k_ne); (case qw_X => assumption); (case qw_T => assumption); (case qw_hI => with_reducible assumption); (case qw_hs => with_reducible assumption); (case qw_hz => (first | lia | omega)); (case qw_hh => exact rfl); (case qw_d => ktr_room); (case qw_u => ktr_units)); intro ws_w h_w k_w F_w N_w hI_w hs_w hl_w)
  k_with "call builtin:list.append" => (k_here; (with_reducible show wpAny _ _ (call (Value.builtin _) [Value.ref _, _]) _ _ _); k_dflt (refine' append_K ?qw_k1 ?qw_k2 ?qw_k3 ?_ ?qw_z; (case qw_k1 => k_asm); (case qw_k2 => k_asm); (case qw_k3 => k_upd); (case qw_z => (rw [PySem.sizeLine_eq, List.size_toArray]; (first | lia | omega)))); intro h_w F_w N_w; (try rw [List.push_toArray] at N_w))
  unfold TellsH
  intro dp un fr gd s Q E X T hd hu hret
  have hin := bInts_in hk
  have h900 : ks.length ≤ 400 := by have := ho.len; have := ho.few; (first | lia | omega)
  k_dflt (refine' enter ?k1 ?k2 ?k3 ?k4 ?k5 ?k6 ?k7 ?c1 ?c2 ?c3 ?c4 ?_; (case k1 => assumption); (case k2 => assumption); (case k3 => k_is); (case k4 => k_is); (case k5 => ktr_room); (case k6 => first | exact BindsTo.of_eq rfl | exact binds_K (by k_in) rfl (by k_is) rfl rfl rfl); (case k7 => exact locs rfl); (case c1 => exact rfl); (case c2 => exact rfl); (case c3 => exact rfl); (case c4 => decide); k_whole; intro h' F' N'; (try dsimp only); (try k_fold))
  k_with "pyIter ref" => k_dflt ((with_reducible rename Fr _ _ _ _ => F9); (with_reducible rename News _ _ _ _ => N9); (refine' iter_rangeG (n := ks.length) (RJ ks x t) rfl ?hr ?hs ?hn F9 ?N ?hJ (Later.out ?turn) (Later.out ?done)); (case hr => k_asm); (case hs => exact small_one (by (first | lia | omega)) (by (first | lia | omega)) (by (first | lia | omega)) (by (first | lia | omega))); (case hn => exact (rangeSize_nat _ _).trans (by (first | lia | omega))); (case hJ => exact RJ.mk _ _ [] 0 [] 0 [] [] [] [] (by (first | lia | omega)) (ownOff_nil _) .nil .nil .nil .nil .nil (fun j hj => absurd hj (Nat.not_lt_zero j)) rfl rfl rfl); (case N => exact news_sub N9 (by kcf_all)))
  k_steps
  · unfold Later
    rintro i t' m₁ nx h' tk' own hi hoff ⟨fa, sb, refs, nf, sv, ns, sl, inner, rs, xs, hne, hin', hI, hsv, hso, hpe, hf, hall, q1, q2, q3⟩ F' N'
    replace F' : Fr s.heap s.heap.objs.size h' (fun y => if y = Str.ofString "octet" then some (.int (0 + (i : Int)) t') else m₁ y) := F'
    rw [Int.zero_add] at F'
    replace N' : News s.heap s.heap.objs.size h' ((fa, PySem.W.listOf refs.toArray nf) :: (sb, PySem.W.listOf sv.toArray ns) :: (inner ++ own)) := N'
    have F8 := frame_in (frame_in (frame_in F' q3) (m := fun z => if z = Str.ofString "order" then some (.bytes x t) else m₁ z) ((if_neg (by decide)).trans q2)) (m := fun z => if z = Str.ofString "seen" then some (.ref sb) else if z = Str.ofString "order" then some (.bytes x t) else m₁ z) ((if_neg (by decide)).trans ((if_neg (by decide)).trans q1))
    clear F'
    have hsl : sl.length ≤ 900 := by rw [hpe.length_eq]; have := hf.total ho.perm; (first | lia | omega)
    have hbl : below sl (i : Int) ≤ sl.length := List.length_filter_le ..
    k_steps
    unfold Later
    refine cut_if s ((i : Int) ∉ sl) ((i : Int) ∈ sl) ?_ ?_ (fun hyes tk9 => ?_)
    · k_steps
      all_goals
        unfold Later
        refine ⟨⟨_, rfl⟩, fun hb => ?_, fun hb => ?_⟩
        all_goals
          obtain ⟨a, b, c⟩ := below_in (x := (i : Int)) hso
          first
            | exact Bool.noConfusion hb
            | exact b (by (first | lia | omega))
            | exact c (by simp_all) (by (first | lia | omega))
            | exact a (by (first | lia | omega)) (by simp_all)
    · intro hno tk9
      k_steps
      unfold Later
      (with_reducible rename Fr _ _ _ _ => F9)
      (with_reducible rename News _ _ _ _ => N9)
      (with_reducible rename _ ∧ _ ∧ AllLt _ (inner ++ own) => l9)
      refine While_inv (RK ks x t i fa sb refs nf (inner ++ own) rs) (n₀ := ks.length + 1) F9 (news_sub N9 (b := (_, PySem.W.listOf (([] : List Value).toArray) 0) :: (fa, PySem.W.listOf refs.toArray nf) :: (sb, PySem.W.listOf sv.toArray ns) :: (inner ++ own)) (by kcf_all)) (.mk _ [] 0 sv ns sl [] i _ l9 .nil hsv hso (by simpa using hpe) (Part.start hi) rfl rfl rfl rfl rfl rfl) ?_
      rintro q m₂ nx h₂ tk₂ F₂ N₂ ⟨rg, rv, nr, sv2, ns2, sl2, r, y, ty, l8, hrv, hsv2, hso2, hpe2, hpt, hq, g1, g2, g3, g4, g5⟩
      have F7 := frame1 (frame1 (frame1 (frame1 (frame1 F₂ g5) (a := Str.ofString "seen") (u := .ref sb) ((if_neg (by decide)).trans g4)) (a := Str.ofString "found") (u := .ref fa) ((if_neg (by decide)).trans ((if_neg (by decide)).trans g3))) (a := Str.ofString "here") (u := .int y ty) ((if_neg (by decide)).trans ((if_neg (by decide)).trans ((if_neg (by decide)).trans g2)))) (a := Str.ofString "ring") (u := .ref rg) ((if_neg (by decide)).trans ((if_neg (by decide)).trans ((if_neg (by decide)).trans ((if_neg (by decide)).trans g1))))
      clear F₂ F9 N9
      have hy := hpt.at ho.perm
      have hr := hpt.len
      have hsl2 : sl2.length ≤ 900 := by rw [hpe2.length_eq, List.length_append]; have := hf.total ho.perm; (first | lia | omega)
      have hrl : r.length ≤ 900 := by (first | lia | omega)
      have hrvl : rv.length ≤ 900 := by rw [hrv.length]; exact hrl
      have hrefs : refs.length ≤ 900 := by rw [hI.len]; have := hf.few; (first | lia | omega)
      have hoR : OwnOff (inner ++ own) [rg, fa, sb] := by
        intro p hp b hb
        have hlt := allLt_mem l8.2.2 p hp
        rcases List.mem_cons.mp hb with rfl | hb
        · exact Nat.ne_of_lt hlt
        · rcases List.mem_append.mp hp with hp | hp
          · exact hin' p hp b hb
          · refine hoff p hp b ?_
            rcases List.mem_cons.mp hb with rfl | hb
            · exact List.mem_cons_self
            · rw [List.mem_singleton.mp hb]
              exact List.mem_cons_of_mem _ List.mem_cons_self
      generalize hrest : inner ++ own = rest at *
      k_steps
      · (with_reducible rename Fr _ _ _ _ => F9)
        (with_reducible rename News _ _ _ _ => N9)
        (with_reducible rename List.any _ _ = true => hany)
        obtain ⟨z, hz, hzy⟩ := List.any_eq_true.mp hany
        have hyr : y ∈ r := by rw [← (beq_iff_eq.mp hzy)]; exact hz
        have hring := hpt.stop ho.perm hyr
        have hnf : (i : Int) ∉ rs.flatten := fun q => hno (hpe.mem_iff.mpr q)
        subst hrest
        refine InvEndG.intro (nx := (fa, PySem.W.listOf (refs ++ [Value.ref rg]).toArray (nf + 1)) :: (sb, PySem.W.listOf sv2.toArray ns2) :: (inner ++ [(rg, PySem.W.listOf rv.toArray nr)])) F9 N9 (RJ.more hne hin' hI hrv hsv2 hso2 hpe2 hf ho.perm hring hnf hall l8 rfl rfl rfl) (own_off hoff l8) ?_ ?_
        · exact mem3 (List.Mem.tail _ (List.Mem.head _)) (List.Mem.tail _ (List.Mem.tail _ (List.Mem.head _))) fun p hp => by
            rcases List.mem_append.mp hp with hp | hp
            · exact List.Mem.tail _ (List.Mem.tail _ (List.Mem.tail _ (List.mem_append.mpr (.inl hp))))
            · rw [List.mem_singleton.mp hp]; exact List.Mem.head _
        · exact fun p hp => List.Mem.tail _ (List.Mem.tail _ (List.Mem.tail _ (List.mem_append.mpr (.inr hp))))
      · (with_reducible rename Fr _ _ _ _ => F9)
        (with_reducible rename News _ _ _ _ => N9)
        (with_reducible rename List.any _ _ = false => hany)
        (with_reducible rename IntsAre _ (insS sl2 y) => hI9)
        (with_reducible rename List.Pairwise _ (insS sl2 y) => hs9)
        (with_reducible rename 0 ≤ ks.getD y.toNat 0 => hlo9)
        have hyr : y ∉ r := fun q => by
          have e := List.any_eq_false.mp hany y q
          exact e (beq_self_eq_true y)
        have hnx := hpt.next ho.perm hyr
        have e9 : ((fn ks y.toNat : Nat) : Int) = ks.getD y.toNat 0 := by unfold fn; (first | lia | omega)
        rw [e9] at hnx
        have hlr := hnx.len
        rw [List.length_append, List.length_singleton] at hlr
        refine WhileStep.intro (n' := q - 1) F9 N9 (by (first | lia | omega)) (.mk rg _ _ _ _ _ (r ++ [y]) _ _ l8 (hrv.append (.cons _ _ .nil)) hI9 hs9 ?_ hnx ?_ rfl rfl rfl rfl rfl)
        · refine (insS_perm _ _).trans ((List.Perm.cons y hpe2).trans ?_)
          rw [← List.append_assoc]
          exact (List.perm_append_singleton y _).symm
        · rw [List.length_append, List.length_singleton]; (first | lia | omega)
      · exfalso
        have := ho.len; have := ho.few
        (first | lia | omega)
    · k_steps
      (with_reducible rename Fr _ _ _ _ => F9)
      (with_reducible rename News _ _ _ _ => N9)
      refine InvEndG.intro (nx := (fa, _) :: (sb, _) :: inner) F9 N9 (.mk fa sb refs nf sv ns sl inner rs xs hne hin' hI hsv hso hpe hf (fun j hj => ?_) rfl rfl rfl) hoff (mem3 (List.Mem.head _) (List.Mem.tail _ (List.Mem.head _)) fun p hp => List.Mem.tail _ (List.Mem.tail _ (List.mem_append.mpr (.inl hp)))) fun p hp => List.Mem.tail _ (List.Mem.tail _ (List.mem_append.mpr (.inr hp)))
      by_cases e : j = i
      · subst e
        exact hpe.mem_iff.mp hyes
      · exact hall j (by (first | lia | omega))
  · unfold Later
    rintro m₁ nx h' tk' ⟨fa, sb, refs, nf, sv, ns, sl, inner, rs, xs, hne, hin', hI, hsv, hso, hpe, hf, hall, q1, q2, q3⟩ F' N'
    have F8 := frame1 F' q1
    clear F'
    k_steps
    (with_reducible rename News _ _ _ _ => N9)
    refine hret _ _ _ (Fr.keep (by assumption)) ⟨fa, refs, nf, inner, xs, rs, rfl, (N9 (fa, _) (List.Mem.head _)).2.2, (N9 (fa, _) (List.Mem.head _)).1, fun p hp => ?_, hI, hf, hall⟩
    have z := N9 p (List.Mem.tail _ (List.Mem.tail _ hp))
    exact ⟨z.2.2, z.1, hin' p hp _ (List.Mem.head _)⟩

end
/-- the end of a turn of a loop whose list may grow -/
def GrowStep (h₀ : Heap) (L : Addr) (s : Shared) (J : Nat → Nat → (Str → Option Value) → List (Addr × Obj) → List Value → Prop) (k i : Nat) (I : Addr) (oI : Obj) (f : Flow) (s₃ : Shared) : Prop :=
  f = .next ∧ ∃ h' tk m' nx' its' k', s₃ = { s with heap := h', toks := tk } ∧ Fr h₀ L h' m' ∧ News h₀ L h' ((I, oI) :: nx') ∧ (∀ p ∈ nx', p.1 ≠ I) ∧ k' < k ∧ J k' (i + 1) m' nx' its'
theorem GrowStep.intro {h₀ h' : Heap} {L : Addr} {s : Shared} {J : Nat → Nat → (Str → Option Value) → List (Addr × Obj) → List Value → Prop} {k k' i tk : Nat} {I : Addr} {oI : Obj} {m' : Str → Option Value} {nx' news' : List (Addr × Obj)} {its' : List Value}
    (F : Fr h₀ L h' m') (N : News h₀ L h' news') (hI : (I, oI) ∈ news') (hn : ∀ p ∈ nx', p ∈ news') (off : ∀ p ∈ nx', p.1 ≠ I) (hk : k' < k) (hJ : J k' (i + 1) m' nx' its') : GrowStep h₀ L s J k i I oI .next { s with heap := h', toks := tk } :=
  ⟨rfl, h', tk, m', nx', its', k', rfl, F, fun p hp => (List.mem_cons.mp hp).elim (fun e => e ▸ N _ hI) fun hp => N p (hn p hp), off, hk, hJ⟩
section
variable {prog : Program} {w : World} {A : Around} {E : Value → Shared → Prop} {s : Shared} {env : Env} {h₀ : Heap} {x : Str} {body : List Stmt} {Q : Flow → Shared → Prop}
theorem For_grow {px pos : Pos} {iter : Expr} {l : Addr} {n₀ : Nat} {m₀ : Str → Option Value} {news : List (Addr × Obj)} {items : List Value} (J : Nat → Nat → (Str → Option Value) → List (Addr × Obj) → List Value → Prop)
    (hh : A.handled = none) (hx : env.kindOf x = some .local) (hp : (env.scope.kind == .class || (env.scope.kind == .module && env.locals != env.globals)) = false)
    (F : Fr h₀ env.locals s.heap m₀) (N : News h₀ env.locals s.heap news)
    (he : ∀ Q' : Value → Shared → Prop, Q' (.ref l) s → wpAny (model prog w) A (eval iter env) Q' E s)
    (mem : ∀ k i m₁ nx its, J k i m₁ nx its → ∃ nn, (l, PySem.W.listOf its.toArray nn) ∈ nx)
    (hJ : J n₀ 0 m₀ news items)
    (turn : ∀ k i v m₁ nx its h tk I oI, J k i m₁ nx its → its[i]? = some v → (∀ p ∈ nx, p.1 ≠ I) → Fr h₀ env.locals h (fun y => if y = x then some v else m₁ y) → News h₀ env.locals h ((I, oI) :: nx) →
      wpAny (model prog w) A (execs body env) (GrowStep h₀ env.locals s J k i I oI) E { s with heap := h, toks := tk })
    (done : ∀ k i m₁ nx its h tk, J k i m₁ nx its → its[i]? = none → Fr h₀ env.locals h m₁ → News h₀ env.locals h nx → Q .next { s with heap := h, toks := tk })
    (hs : ∀ x, foldedSetIterable iter env x = pure x := by intro _; rfl)
    (hE : PassesOwn (model prog w) A env E := by passes_own) :
    wpAny (model prog w) A (exec (.For (.Name x px) iter body [] pos) env) Q E s := by
  refine wpAny_For (he _ ?_) hs
  obtain ⟨nn, hm⟩ := mem _ _ _ _ _ hJ
  have hl : s.heap.IsList l items.toArray := N.isList hm
  refine wpAny_pyIter_list hl ?_
  generalize hI : s.heap.objs.size = I
  have hIL : I ≠ env.locals := fun e => absurd F.ns.lt (by rw [← e, hI]; exact Nat.lt_irrefl _)
  have hI₀ : h₀.get? I = none := hI ▸ next_is_new F
  refine codeAny_forLoop
    (fun k s' => ∃ h' tk m' nx its i, s' = { s with heap := h', toks := tk } ∧ h'.IsListIter I l i ∧ Fr h₀ env.locals h' m' ∧ News h₀ env.locals h' nx ∧ (∀ p ∈ nx, p.1 ≠ I) ∧ J k i m' nx its) ?_ n₀
    ⟨_, s.toks, m₀, news, items, 0, rfl, ⟨_, hI ▸ Heap.get?_push_size _ rfl, rfl, rfl⟩, F.push _, fun p hp => ⟨Heap.get?_push_of_some _ (N p hp).1, (N p hp).2⟩, fun p hp e => ?_, hJ⟩
  · rintro k s' ⟨h', tk, m', nx, its, i, rfl, hit, F', N', off, hj⟩
    obtain ⟨nn', hm'⟩ := mem _ _ _ _ _ hj
    have hl' : h'.IsList l its.toArray := N'.isList hm'
    cases hv : its[i]? with
    | none =>
      refine wpAny_pyNext_list_end hh hit hl' (by simpa using hv) fun h₁ hs₁ => wpAny_execs_nil ?_
      refine done k i m' nx its h₁ tk hj hv ⟨F'.ns.at' fun o e => hs₁ _ o (Ne.symm hIL) e, fun b o e => hs₁ b o (fun q => by rw [q, hI₀] at e; cases e) (F'.keep b o e), F'.above⟩ fun p hp => ⟨hs₁ _ _ (off p hp) (N' p hp).1, (N' p hp).2⟩
    | some v =>
      refine wpAny_pyNext_list_item hit hl' (by simpa using hv) fun h₁ hit₁ hs₁ => ?_
      have F₁ := F'.change hs₁ hIL hI₀
      have N₁ : News h₀ env.locals h₁ nx := fun p hp => ⟨(hs₁.2 _ (off p hp)).trans (N' p hp).1, (N' p hp).2⟩
      refine wpAny_assign_Name (wpAny_storeName_local hx F₁.ns (fun h₂ hn₂ hs₂ => ?_) hp)
      have F₂ := F₁.set hn₂ hs₂
      obtain ⟨oI, hoI, hcI, hdI⟩ := id hit₁
      have hoI₂ : h₂.get? I = some oI := (hs₂.2 _ hIL).trans hoI
      refine wpAny_mono (turn k i v m' nx its h₂ _ I oI hj hv off F₂ fun p hp => ?_) (fun f s₃ h₃ => ?_) fun _ _ e => hE _ _ e
      · rcases List.mem_cons.mp hp with rfl | hp
        · exact ⟨hoI₂, hIL, hI₀⟩
        · exact N₁.set hs₂ p hp
      · obtain ⟨rfl, h₃', tk₃, m₃, nx₃, its₃, k₃, rfl, F₃, N₃, off₃, hk₃, hj₃⟩ := h₃
        exact ⟨k₃, hk₃, h₃', tk₃, m₃, nx₃, its₃, i + 1, rfl, ⟨oI, (N₃ _ (List.mem_cons_self ..)).1, hcI, hdI⟩, F₃, fun p hp => N₃ p (List.mem_cons_of_mem _ hp), off₃, hj₃⟩
  · exact absurd (Heap.lt_size (N p hp).1) (by rw [hI, e]; exact Nat.lt_irrefl _)
end

/- pieces -/
abbrev Cl (n : Nat) (f : Nat → Nat) (m : Nat) : Nat → Nat → Prop := Eqv (pg n f m)
/-- a set that holds what is across and what is round the corner holds the whole piece -/
theorem closed_cl {n m : Nat} {f : Nat → Nat} (h : PermOn n f) (hn : n = 2 * m) {S : Nat → Prop} (h1 : ∀ y, y < n → S y → S (f y)) (h2 : ∀ y, y < n → S y → S (flip y)) {x y : Nat} (e : Cl n f m x y) : S x ↔ S y := by
  have hit : ∀ k y, y < n → S y → S (it f k y) := by
    intro k
    induction k with
    | zero => exact fun _ _ s => s
    | succ k ih => exact fun y hy s => h1 _ (it_lt h k y hy) (ih y hy s)
  induction e with
  | rel g =>
    rcases g with ⟨hx, rfl⟩ | ⟨j, hj, rfl, rfl⟩
    · refine ⟨h1 _ hx, fun s => ?_⟩
      have c : Cyc n f (f _) _ := (Eqv.rel ⟨hx, rfl⟩ : Cyc n f _ (f _)).symm
      obtain ⟨k, e⟩ := (cyc_it h c).2 (h.1 _ hx)
      rw [e]; exact hit k _ (h.1 _ hx) s
    · refine ⟨fun s => ?_, fun s => ?_⟩
      · have := h2 _ (by (first | lia | omega)) s
        rwa [show flip (2 * j) = 2 * j + 1 by unfold flip; split <;> (first | lia | omega)] at this
      · have := h2 _ (by (first | lia | omega)) s
        rwa [show flip (2 * j + 1) = 2 * j by unfold flip; split <;> (first | lia | omega)] at this
  | refl => exact Iff.rfl
  | symm _ ih => exact ih.symm
  | trans _ _ a b => exact a.trans b
theorem cl_f {n m : Nat} {f : Nat → Nat} {y : Nat} (hy : y < n) : Cl n f m y (f y) := .rel (.inl ⟨hy, rfl⟩)
theorem cl_flip {n m : Nat} {f : Nat → Nat} (hn : n = 2 * m) {y : Nat} (hy : y < n) : Cl n f m y (flip y) := flip_pg (by (first | lia | omega))
/-- so many of the first n are not in p -/
def miss (n : Nat) (p : List Int) : Nat := ((List.range n).filter fun (j : Nat) => decide (((j : Nat) : Int) ∉ p)).length
theorem filter_le {α : Type} {P Q : α → Bool} : ∀ {l : List α}, (∀ x ∈ l, P x = true → Q x = true) → (l.filter P).length ≤ (l.filter Q).length
  | [], _ => Nat.le_refl _
  | a :: l, h => by
    have ih := filter_le (l := l) fun x hx => h x (List.mem_cons_of_mem _ hx)
    have ha := h a List.mem_cons_self
    by_cases hp : P a = true
    · simp only [List.filter_cons, hp, ha hp, if_true, List.length_cons]; (first | lia | omega)
    · have hp : P a = false := by simpa using hp
      simp only [List.filter_cons, hp]
      by_cases hq : Q a = true
      · simp only [hq, if_true, List.length_cons, Bool.false_eq_true, if_false]; (first | lia | omega)
      · simp only [hq, Bool.false_eq_true, if_false]; exact ih
theorem filter_lt {α : Type} {P Q : α → Bool} : ∀ {l : List α}, (∀ x ∈ l, P x = true → Q x = true) → ∀ {a : α}, a ∈ l → Q a = true → P a = false → (l.filter P).length < (l.filter Q).length
  | [], _, _, ha, _, _ => nomatch ha
  | b :: l, h, a, ha, hq, hp => by
    have h' : ∀ x ∈ l, P x = true → Q x = true := fun x hx => h x (List.mem_cons_of_mem _ hx)
    rcases List.mem_cons.mp ha with rfl | hm
    · have := filter_le h'
      simp only [List.filter_cons, hp, hq, if_true, List.length_cons, Bool.false_eq_true, if_false]; (first | lia | omega)
    · have ih := filter_lt h' hm hq hp
      have hb := h b List.mem_cons_self
      by_cases hpb : P b = true
      · simp only [List.filter_cons, hpb, hb hpb, if_true, List.length_cons]; (first | lia | omega)
      · have hpb : P b = false := by simpa using hpb
        by_cases hqb : Q b = true
        · simp only [List.filter_cons, hpb, hqb, if_true, List.length_cons, Bool.false_eq_true, if_false]; (first | lia | omega)
        · simp only [List.filter_cons, hpb, hqb, Bool.false_eq_true, if_false]; exact ih
theorem miss_lt {n : Nat} {p q : List Int} (h : ∀ y ∈ p, y ∈ q) {j : Nat} (hj : j < n) (hp : (j : Int) ∉ p) (hq : (j : Int) ∈ q) : miss n q < miss n p :=
  filter_lt (a := j) (fun x _ hx => by
    have := of_decide_eq_true hx
    exact decide_eq_true fun hp => this (h _ hp)) (List.mem_range.mpr hj) (decide_eq_true hp) (decide_eq_false fun x => x hq)
theorem miss_all {n : Nat} : miss n [] = n := by
  unfold miss
  rw [List.filter_eq_self.mpr (fun a _ => decide_eq_true (by simp)), List.length_range]

/-- a piece so far: i of its ends looked at -/
structure Pce (n : Nat) (f : Nat → Nat) (m : Nat) (x0 : Nat) (p : List Int) (i : Nat) : Prop where
  start : (x0 : Int) ∈ p
  x0lt : x0 < n
  low : ∀ y ∈ p, 0 ≤ y ∧ y < n ∧ Cl n f m x0 y.toNat
  done : ∀ j, j < i → ∀ y, p[j]? = some y → ((f y.toNat : Nat) : Int) ∈ p ∧ ((flip y.toNat : Nat) : Int) ∈ p
  le : i ≤ p.length
  few : p.length + 2 * miss n p ≤ 2 * n
theorem Pce.init {n m x0 : Nat} {f : Nat → Nat} (hx : x0 < n) : Pce n f m x0 [(x0 : Int)] 0 := by
  refine ⟨List.mem_singleton.mpr rfl, hx, fun y hy => ?_, (fun j hj => absurd hj (Nat.not_lt_zero _)), Nat.zero_le _, ?_⟩
  · rw [List.mem_singleton.mp hy]
    exact ⟨by (first | lia | omega), by (first | lia | omega), .refl _⟩
  · have := miss_lt (n := n) (p := []) (q := [(x0 : Int)]) (fun y hy => (nomatch hy)) hx (by simp) (by simp)
    rw [miss_all] at this
    simp only [List.length_singleton]; (first | lia | omega)
/-- the news of a turn: a part of the two ends, those that were not there -/
theorem Pce.more {n m x0 i : Nat} {f : Nat → Nat} {p : List Int} (h : PermOn n f) (hn : n = 2 * m) (P : Pce n f m x0 p i) {y : Int} (hy : p[i]? = some y) (a : List Int)
    (ha : a = [((f y.toNat : Nat) : Int), ((flip y.toNat : Nat) : Int)].filter fun z => decide (z ∉ p)) :
    Pce n f m x0 (p ++ a) (i + 1) ∧ 2 * miss n (p ++ a) + (p ++ a).length - (i + 1) < 2 * miss n p + p.length - i := by
  have hmem := List.mem_of_getElem? hy
  obtain ⟨y0, y1, y2⟩ := P.low y hmem
  have hlt : i < p.length := (List.getElem?_eq_some_iff.mp hy).1
  have hyn : y.toNat < n := by (first | lia | omega)
  have hf1 := h.1 _ hyn
  have hf2 : flip y.toNat < n := by have := flip_lt (m := m) (x := y.toNat) (by (first | lia | omega)); (first | lia | omega)
  have ina : ∀ z ∈ a, z ∉ p ∧ (z = ((f y.toNat : Nat) : Int) ∨ z = ((flip y.toNat : Nat) : Int)) := by
    intro z hz
    rw [ha, List.mem_filter] at hz
    refine ⟨of_decide_eq_true hz.2, ?_⟩
    simpa using hz.1
  have both : ∀ z, (z = ((f y.toNat : Nat) : Int) ∨ z = ((flip y.toNat : Nat) : Int)) → z ∈ p ++ a := by
    intro z hz
    by_cases hp : z ∈ p
    · exact List.mem_append.mpr (.inl hp)
    · refine List.mem_append.mpr (.inr ?_)
      rw [ha, List.mem_filter]
      exact ⟨by simpa using hz, decide_eq_true hp⟩
  have la : a.length ≤ 2 := by rw [ha]; exact List.length_filter_le _ _
  have ms : a = [] ∨ miss n (p ++ a) < miss n p := by
    cases hc : a with
    | nil => exact .inl rfl
    | cons z a' =>
      right
      rw [← hc]
      have hz := ina z (by rw [hc]; exact List.mem_cons_self)
      have z0 : 0 ≤ z ∧ z < n := by rcases hz.2 with e | e <;> (first | lia | omega)
      refine miss_lt (j := z.toNat) (fun y hy => List.mem_append.mpr (.inl hy)) (by (first | lia | omega)) ?_ ?_
      · rw [show ((z.toNat : Nat) : Int) = z by (first | lia | omega)]; exact hz.1
      · rw [show ((z.toNat : Nat) : Int) = z by (first | lia | omega)]; exact List.mem_append.mpr (.inr (by rw [hc]; exact List.mem_cons_self))
  have hlen : (p ++ a).length = p.length + a.length := List.length_append
  have hfew := P.few
  have e0 : a = [] → miss n (p ++ a) = miss n p ∧ a.length = 0 := fun e => by rw [e, List.append_nil]; exact ⟨rfl, rfl⟩
  refine ⟨⟨List.mem_append.mpr (.inl P.start), P.x0lt, ?_, ?_, by (first | lia | omega), ?_⟩, ?_⟩
  · intro z hz
    rcases List.mem_append.mp hz with hz | hz
    · exact P.low z hz
    · rcases (ina z hz).2 with e | e
      · subst e; exact ⟨by (first | lia | omega), by (first | lia | omega), y2.trans (by rw [Int.toNat_natCast]; exact cl_f hyn)⟩
      · subst e; exact ⟨by (first | lia | omega), by (first | lia | omega), y2.trans (by rw [Int.toNat_natCast]; exact cl_flip hn hyn)⟩
  · intro j hj z hz
    have hjl : j < p.length := by (first | lia | omega)
    rw [List.getElem?_append_left hjl] at hz
    by_cases e : j = i
    · subst e
      rw [hy] at hz
      cases hz
      exact ⟨both _ (.inl rfl), both _ (.inr rfl)⟩
    · have := P.done j (by (first | lia | omega)) z hz
      exact ⟨List.mem_append.mpr (.inl this.1), List.mem_append.mpr (.inl this.2)⟩
  · rcases ms with e | e
    · obtain ⟨e1, e2⟩ := e0 e; (first | lia | omega)
    · (first | lia | omega)
  · rcases ms with e | e
    · obtain ⟨e1, e2⟩ := e0 e; (first | lia | omega)
    · (first | lia | omega)
theorem Pce.whole {n m x0 i : Nat} {f : Nat → Nat} {p : List Int} (h : PermOn n f) (hn : n = 2 * m) (P : Pce n f m x0 p i) (hi : p.length ≤ i) (y : Nat) : (y : Int) ∈ p ↔ Cl n f m x0 y := by
  constructor
  · intro hy
    have := (P.low _ hy).2.2
    rwa [Int.toNat_natCast] at this
  · intro c
    have key : ∀ y : Nat, (y : Int) ∈ p → ((f y : Nat) : Int) ∈ p ∧ ((flip y : Nat) : Int) ∈ p := by
      intro y hy
      obtain ⟨j, hj, e⟩ := List.getElem_of_mem hy
      have := P.done j (by (first | lia | omega)) (y : Int) (by rw [List.getElem?_eq_getElem hj, e])
      rwa [Int.toNat_natCast] at this
    exact (closed_cl h hn (S := fun z => (z : Int) ∈ p) (fun y _ hy => (key y hy).1) (fun y _ hy => (key y hy).2) c).mp P.start

/-- the ends left, behind so many pieces -/
structure Lft (n : Nat) (f : Nat → Nat) (m : Nat) (xs : List Nat) (left : List Int) : Prop where
  dom : ∀ x ∈ xs, x < n
  apart : xs.Pairwise fun a b => ¬ Cl n f m a b
  low : ∀ y ∈ left, 0 ≤ y ∧ y < n
  out : ∀ y : Nat, y < n → ((y : Int) ∈ left ↔ ∀ x ∈ xs, ¬ Cl n f m x y)
  le : left.length ≤ n
theorem Lft.init {n m : Nat} {f : Nat → Nat} : Lft n f m [] ((List.range n).map fun i => ((i : Nat) : Int)) := by
  refine ⟨(fun x hx => nomatch hx), List.Pairwise.nil, (fun y hy => ?_), (fun y hy => ⟨fun _ x hx => (nomatch hx), fun _ => List.mem_map.mpr ⟨y, List.mem_range.mpr hy, rfl⟩⟩), by simp⟩
  obtain ⟨i, hi, rfl⟩ := List.mem_map.mp hy
  have := List.mem_range.mp hi
  (first | lia | omega)
theorem Lft.next {n m x0 i : Nat} {f : Nat → Nat} {p left : List Int} {xs : List Nat} (h : PermOn n f) (hn : n = 2 * m) (L : Lft n f m xs left) (hx : (x0 : Int) ∈ left) (P : Pce n f m x0 p i) (hi : p.length ≤ i) :
    Lft n f m (xs ++ [x0]) (left.filter fun z => decide (z ∉ p)) ∧ (left.filter fun z => decide (z ∉ p)).length < left.length := by
  have lw := L.low _ hx
  refine ⟨⟨?_, ?_, ?_, ?_, Nat.le_trans (List.length_filter_le _ _) L.le⟩, ?_⟩
  · intro x hx
    rcases List.mem_append.mp hx with hx | hx
    · exact L.dom x hx
    · rw [List.mem_singleton.mp hx]; exact P.x0lt
  · refine List.pairwise_append.mpr ⟨L.apart, List.pairwise_singleton _ _, fun a ha b hb => ?_⟩
    rw [List.mem_singleton.mp hb]
    exact (L.out x0 P.x0lt).mp hx a ha
  · intro y hy
    exact L.low y (List.mem_filter.mp hy).1
  · intro y hy
    rw [List.mem_filter, L.out y hy]
    constructor
    · rintro ⟨a, b⟩ x hx
      rcases List.mem_append.mp hx with hx | hx
      · exact a x hx
      · rw [List.mem_singleton.mp hx]
        exact fun c => of_decide_eq_true b ((P.whole h hn hi y).mpr c)
    · intro a
      exact ⟨fun x hx => a x (List.mem_append.mpr (.inl hx)), decide_eq_true fun q => a x0 (List.mem_append.mpr (.inr (List.mem_singleton.mpr rfl))) ((P.whole h hn hi y).mp q)⟩
  · have := filter_lt (P := fun z => decide (z ∉ p)) (Q := fun _ => true) (l := left) (fun _ _ _ => rfl) hx rfl (decide_eq_false fun q => q P.start)
    rwa [List.filter_eq_self.mpr (fun _ _ => rfl)] at this
theorem Lft.stop {n m : Nat} {f : Nat → Nat} {xs : List Nat} (L : Lft n f m xs []) : num n (pg n f m) = xs.length := by
  refine num_of ⟨L.dom, L.apart, fun y hy => ?_⟩
  apply Classical.byContradiction
  intro hno
  have := (L.out y hy).mpr fun x hx c => hno ⟨x, hx, c⟩
  exact nomatch this

section
open LCg LCt
section
variable {prog : Program} {w : World} {A : Around} {h₀ : Heap} {L : Addr} {m : Str → Option Value} {env : Env} {ct elt : Expr} {x : Str} {scope : Scope} {cl : List (Str × Addr)}
/-- a turn of a comprehension that keeps the ints for which q says yes -/
def TurnF (prog : Program) (w : World) (A : Around) (h₀ : Heap) (L : Addr) (m : Str → Option Value) (env : Env) (ct elt : Expr) (x : Str) (scope : Scope) (cl : List (Str × Addr)) (s : Shared) (S : List (Addr × Obj) → Prop) (ks : List Int) (q : Int → Bool) (news : List (Addr × Obj)) : Prop :=
  ∀ k t I oI C oC D m₂ ys l h tk (E' : Value → Shared → Prop), k ∈ ks → IntsAre ys l → LCg.NsObj oC m₂ → m₂ x = some (.int k t) → Fr h₀ L h m → News h₀ L h ((I, oI) :: (C, oC) :: (D, LCg.lst ys) :: news) → LCg.Off3 I C D news → ((@Ne Nat I C) ∧ (@Ne Nat I D) ∧ (@Ne Nat C D)) → KPfMark →
    wpAny (model prog w) A (isTrue ct (compEnvC scope cl C env) (eval ct (compEnvC scope cl C env))) (fun b s' => b = q k ∧ if b = true then wpAny (model prog w) A (eval elt (compEnvC scope cl C env)) (LCg.CompEnd h₀ L m { s with heap := h, toks := tk } I oI C oC D (LCg.lst ys) S (fun y news' => news' = news ∧ ∃ t, y = .int k t)) E' s'
      else LCg.CompEnd h₀ L m { s with heap := h, toks := tk } I oI C oC D (LCg.lst ys) S (fun _ news' => news' = news) Value.none s') E' { s with heap := h, toks := tk }
theorem foldl_filter (q : Int → Bool) : ∀ (ks l : List Int), ks.foldl (fun l k => if q k = true then l ++ [k] else l) l = l ++ ks.filter q := by
  intro ks
  induction ks with
  | nil => intro l; simp
  | cons k ks ih =>
    intro l
    rw [List.foldl_cons, ih, List.filter_cons]
    by_cases hq : q k = true
    · simp [hq]
    · simp [hq]
theorem filt_rest {s : Shared} {S : List (Addr × Obj) → Prop} {P : Nat → Value → Prop} {Fin : List Value → List (Addr × Obj) → Prop} {news : List (Addr × Obj)} {n : Nat} {ks : List Int} (q : Int → Bool) (hks : ks.length = n) (hP : ∀ i v, i < n → P i v → ∃ k t, ks[i]? = some k ∧ v = .int k t)
    (turn : TurnF prog w A h₀ L m env ct elt x scope cl s S ks q news) (fin : ∀ ys, IntsAre ys (ks.filter q) → ys.length ≤ n → Fin ys news) : LCt.CompRestT prog w A h₀ L m env ct elt x scope cl s S P Fin n 0 [] news := by
  refine kci_rest (fun l k => if q k = true then l ++ [k] else l) hks hP (fun k t I oI C oC D m₂ ys l h tk E' a1 a2 a3 a4 a5 a6 a7 a8 a9 => ?_) (by intro ys hy hl; exact fin ys (by rw [foldl_filter] at hy; simpa using hy) hl) (by intro l k; dsimp only; split <;> simp)
  refine wpAny_mono (turn k t I oI C oC D m₂ ys l h tk E' a1 a2 a3 a4 a5 a6 a7 a8 a9) (fun b s' hb => ?_) fun _ _ x => x
  obtain ⟨hb, hr⟩ := hb
  cases b with
  | true =>
    simp only [if_true] at hr ⊢
    refine wpAny_mono hr (fun y s₃ hc => ?_) fun _ _ x => x
    obtain ⟨h', tk', nw, e, F', N', off', hS, hn, t', hy⟩ := hc
    exact ⟨h', tk', nw, e, F', N', off', hS, hn, k, t', hy, by rw [if_pos hb.symm]⟩
  | false =>
    simp only [Bool.false_eq_true, if_false] at hr ⊢
    obtain ⟨h', tk', nw, e, F', N', off', hS, hn⟩ := hr
    exact ⟨h', tk', nw, e, F', N', off', hS, hn, by rw [if_neg (by rw [← hb]; exact Bool.false_ne_true)]⟩
theorem src_filt {Fin : Shared → List Value → List (Addr × Obj) → Prop} {ax : Addr} {vs : List Value} {ns : List Int} {kk : Nat} {news : List (Addr × Obj)} {s₁ : Shared} (q : Int → Bool)
    (hh : A.handled = none) (F : Fr h₀ L s₁.heap m) (N : News h₀ L s₁.heap news) (hm : (ax, PySem.W.listOf vs.toArray kk) ∈ news) (hI : IntsAre vs ns) (hsz : ns.length ≤ sizeLine)
    (turn : ∀ gh, TurnF prog w A h₀ L m env ct elt x scope cl { s₁ with heap := gh } (SrcAt h₀ ax vs.toArray) ns q news)
    (fin : ∀ gh ys, IntsAre ys (ns.filter q) → ys.length ≤ ns.length → Fin { s₁ with heap := gh } ys news) : CompSrcT prog w A h₀ L m env ct elt x scope cl Fin (.ref ax) s₁ :=
  CompSrcT.ledger hh F N hm (by rw [List.size_toArray, hI.length]; exact hsz) fun g => filt_rest (ks := ns) q (by rw [List.size_toArray]; exact hI.length.symm) (fun i v _ hv => by
    obtain ⟨k, t, e, hk⟩ := IntsAre.at hI i v (by simpa using hv)
    exact ⟨k, t, hk, e⟩) (turn g) (by rw [List.size_toArray, hI.length]; exact fin g)
theorem src_filtR {Fin : Shared → List Value → List (Addr × Obj) → Prop} {r : Addr} {a b : Int} {t u v : Tok} {n : Nat} {news : List (Addr × Obj)} {s₁ : Shared} (q : Int → Bool)
    (hh : A.handled = none) (F : Fr h₀ L s₁.heap m) (N : News h₀ L s₁.heap news) (hr : IsRange s₁.heap r a b 1 t u v) (hsm : Builtin.Range.small a b 1 = true) (hn : Builtin.Range.rangeSize a b 1 = ((n : Nat) : Int)) (hsz : n ≤ sizeLine)
    (turn : ∀ gh, TurnF prog w A h₀ L m env ct elt x scope cl { s₁ with heap := gh } (fun _ => True) (rangeKs a n) q news)
    (fin : ∀ gh ys, IntsAre ys ((rangeKs a n).filter q) → ys.length ≤ n → Fin { s₁ with heap := gh } ys news) : CompSrcT prog w A h₀ L m env ct elt x scope cl Fin (.ref r) s₁ :=
  CompSrcT.range hh F N hr hsm hn hsz fun g => filt_rest (ks := rangeKs a n) q (rangeKs_length a n) (fun i v hi hv => by
    obtain ⟨t, e⟩ := hv
    exact ⟨a + (i : Int), t, by simp [rangeKs, hi], e⟩) (turn g) (fin g)

/-- a turn of a comprehension that makes one int of each int -/
def TurnM (prog : Program) (w : World) (A : Around) (h₀ : Heap) (L : Addr) (m : Str → Option Value) (env : Env) (elt : Expr) (x : Str) (scope : Scope) (cl : List (Str × Addr)) (s : Shared) (S : List (Addr × Obj) → Prop) (ks : List Int) (g : Int → Int) (news : List (Addr × Obj)) : Prop :=
  ∀ k t I oI C oC D m₂ ys h tk (E' : Value → Shared → Prop), k ∈ ks → LCg.NsObj oC m₂ → m₂ x = some (.int k t) → Fr h₀ L h m → News h₀ L h ((I, oI) :: (C, oC) :: (D, LCg.lst ys) :: news) → LCg.Off3 I C D news → ((@Ne Nat I C) ∧ (@Ne Nat I D) ∧ (@Ne Nat C D)) → KPfMark →
    wpAny (model prog w) A (eval elt (compEnvC scope cl C env)) (LCg.CompEnd h₀ L m { s with heap := h, toks := tk } I oI C oC D (LCg.lst ys) S (fun y news' => news' = news ∧ ∃ t : Tok, y = .int (g k) t)) E' { s with heap := h, toks := tk }
theorem src_mapL {Fin : Shared → List Value → List (Addr × Obj) → Prop} {ax : Addr} {vs : List Value} {ns : List Int} {kk : Nat} {news : List (Addr × Obj)} {s₁ : Shared} (g : Int → Int)
    (hh : A.handled = none) (F : Fr h₀ L s₁.heap m) (N : News h₀ L s₁.heap news) (hm : (ax, PySem.W.listOf vs.toArray kk) ∈ news) (hI : IntsAre vs ns) (hsz : ns.length ≤ sizeLine)
    (turn : ∀ gh, TurnM prog w A h₀ L m env elt x scope cl { s₁ with heap := gh } (SrcAt h₀ ax vs.toArray) ns g news)
    (fin : ∀ gh ys, IntsAre ys (ns.map g) → Fin { s₁ with heap := gh } ys news) : CompSrc prog w A h₀ L m env elt x scope cl Fin (.ref ax) s₁ :=
  CompSrc.ledger hh F N hm (by rw [List.size_toArray, hI.length]; exact hsz) fun gh => kcf_list g hI (turn gh) (fin gh)
theorem src_mapR {Fin : Shared → List Value → List (Addr × Obj) → Prop} {r : Addr} {a b : Int} {t u v : Tok} {n : Nat} {news : List (Addr × Obj)} {s₁ : Shared} (g : Int → Int)
    (hh : A.handled = none) (F : Fr h₀ L s₁.heap m) (N : News h₀ L s₁.heap news) (hr : IsRange s₁.heap r a b 1 t u v) (hsm : Builtin.Range.small a b 1 = true) (hn : Builtin.Range.rangeSize a b 1 = ((n : Nat) : Int)) (hsz : n ≤ sizeLine)
    (turn : ∀ gh, TurnM prog w A h₀ L m env elt x scope cl { s₁ with heap := gh } (fun _ => True) (rangeKs a n) g news)
    (fin : ∀ gh ys, IntsAre ys ((rangeKs a n).map g) → Fin { s₁ with heap := gh } ys news) : CompSrc prog w A h₀ L m env elt x scope cl Fin (.ref r) s₁ :=
  CompSrc.range hh F N hr hsm hn hsz fun gh => kcf_rest (ks := rangeKs a n) g (rangeKs_length a n) (fun i v hi hv => by
    obtain ⟨t, e⟩ := hv
    exact ⟨a + (i : Int), t, by simp [rangeKs, hi], e⟩) (turn gh) (fin gh)
end

end
theorem intsAre_get {vs : List Value} {ns : List Int} (h : IntsAre vs ns) : ∀ {i : Nat} {v : Value}, vs[i]? = some v → ∃ y t, v = .int y t ∧ ns[i]? = some y := by
  induction h with
  | nil => intro i v e; simp at e
  | cons n t _ ih =>
    intro i v e
    cases i with
    | zero => exact ⟨n, t, by simpa using e.symm, rfl⟩
    | succ i => exact ih (by simpa using e)
theorem not_any (p : List Int) (z : Int) : (!p.any fun x => x == z) = decide (z ∉ p) := by
  by_cases h : z ∈ p
  · have : (p.any fun x => x == z) = true := List.any_eq_true.mpr ⟨z, h, beq_self_eq_true z⟩
    rw [this]; simp [h]
  · have : (p.any fun x => x == z) = false := List.any_eq_false.mpr fun x hx e => h (beq_iff_eq.mp e ▸ hx)
    rw [this]; simp [h]
theorem any_two {p : List Int} {a b : Int} {ba bb : Bool} (ha : (p.any fun x => x == a) = ba) (hb : (p.any fun x => x == b) = bb) : ([a, b].filter fun z => decide (z ∉ p)) = cond ba [] [a] ++ cond bb [] [b] := by
  have key : ∀ z, decide (z ∉ p) = !(p.any fun x => x == z) := by
    intro z
    by_cases h : z ∈ p
    · have : (p.any fun x => x == z) = true := List.any_eq_true.mpr ⟨z, h, beq_self_eq_true z⟩
      rw [this]; simp [h]
    · have : (p.any fun x => x == z) = false := List.any_eq_false.mpr fun x hx e => h (beq_iff_eq.mp e ▸ hx)
      rw [this]; simp [h]
  simp only [List.filter_cons, List.filter_nil, key, ha, hb]
  cases ba <;> cases bb <;> rfl
section
variable {prog : Program} {w : World} {A : Around} {E : Value → Shared → Prop} {s : Shared} {h₀ : Heap} {L : Addr} {m : Str → Option Value}
theorem extend_L {D b : Addr} {its its2 : List Value} {p q : List Int} {n n2 : Nat} {news rest : List (Addr × Obj)} {Q : Value → Shared → Prop} (F : Fr h₀ L s.heap m) (N : News h₀ L s.heap news) (hD : (D, PySem.W.listOf its.toArray n) ∈ news) (hb : (b, PySem.W.listOf its2.toArray n2) ∈ news)
    (hr : ∀ p ∈ rest, p ∈ news ∧ p.1 ≠ D) (hsz : its.length + its2.length ≤ 16777216) (hI : IntsAre its p) (hJ : IntsAre its2 q)
    (h : ∀ h' n' ws, Fr h₀ L h' m → News h₀ L h' ((D, PySem.W.listOf (ws : List Value).toArray n') :: rest) → IntsAre ws (p ++ q) → Q .none { s with heap := h' }) :
    wpAny (model prog w) A (call (.builtin "list.extend") [.ref D, .ref b]) Q E s := by
  refine extend_in (own := []) (rest := rest) (D := D) (ys := its) (n := n) (n2 := n2) (its2 := its2.toArray) F (fun p hp => ?_) (fun p hp => nomatch hp) (fun p hp => (hr p hp).2) (N _ hb).1 (fun h' n' F' N' => ?_) (by rw [sizeLine_eq, List.size_toArray]; (first | lia | omega))
  · rcases List.mem_cons.mp hp with rfl | hp
    · exact N _ hD
    · exact N p (hr p hp).1
  · exact h h' n' _ F' N' (hI.append hJ)
end
theorem Lft.few {n m : Nat} {f : Nat → Nat} {xs : List Nat} {left : List Int} (L : Lft n f m xs left) : xs.length ≤ n := by
  refine nodup_le n xs ?_ L.dom
  rw [List.Nodup]
  refine L.apart.imp fun hab e => hab ?_
  subst e
  exact .refl _
set_option maxHeartbeats 4000000 in
theorem pieces_tells (w : World) (loose : List Str) (mean : ExcName → Option Value) (mg mb : Str → Option Value) (x : Array UInt8) (t : Tok) (ks : List Int) (hk : KBw.bInts x = ks) (m : Nat) (ho : Ord ks m) :
    Tells Challenge.rw_ic0001_01.row.toRowW.prog w (Mine.hd.heap_39 w.params) Mine.hd.view_39 loose mean mg mb 56 5 80 [.bytes x t] (fun _ => True) (fun _ r => ∃ t, r = .int (num ks.length (pg ks.length (fn ks) m) : Nat) t) := by
  w_top off
  k_fill
  k_with_none
  k_with "binaryOp BitXor int int" => (k_here; (refine' xor_K ?qw_h0 ?qw_hm ?qw_h4 ?_; (case qw_h4 => assumption); (case qw_h0 => (first | lia | omega)); (case qw_hm => (first | lia | omega))); intro _ _)
  k_with "exec For Name Name cons nil" => refine Later.out ?_
  k_with "call builtin:list.extend" => refine Later.out ?_
  k_with "eval ListComp" => (k_here; (with_reducible show wpAny _ _ (eval (Expr.ListComp (Expr.Name _ _) [⟨Expr.Name _ _, _, [_], _⟩] _ _) _) _ _ _); k_dflt (refine LCt.ListComp_T (F₀ := by k_asm) (by with_unfolding_all rfl) (by decide) (by rfl) (by decide) (by rfl) ?_))
  k_with "exec While Compare" => refine Later.out ?_
  k_with "CompEnd" => (refine' LCg.CompEnd.intro ?qw_ceF ?qw_ceN _ ?qw_ceS ?qw_ceO ?qw_ceR ?_; (case qw_ceO => assumption); (case qw_ceF => k_asm); (case qw_ceN => k_asm); (case qw_ceS => kcf_all); (case qw_ceR => lcg_src))
  unfold Tells
  intro dp un fr gd s Q E X T hd hu _ hret
  have hin := bInts_in hk
  k_dflt (refine' enterC ?k1 ?k2 ?k3 ?k4 ?k5 ?k6 ?k7 ?k8 ?c1 ?c2 ?c3 ?_; (case k1 => assumption); (case k2 => assumption); (case k3 => k_is); (case k4 => k_is); (case k5 => ktr_room); (case k6 => first | exact BindsTo.of_eq rfl | exact binds_K (by k_in) rfl (by k_is) rfl rfl rfl); (case k7 => exact rfl); (case k8 => decide +kernel); (case c1 => exact rfl); (case c2 => exact rfl); (case c3 => exact rfl); k_whole; intro h' tk' cells' F' N' Y'; k_cells Y'; (try dsimp only); (try k_fold))
  have h900 : ks.length ≤ 400 := by have := ho.len; have := ho.few; (first | lia | omega)
  k_steps
  unfold Later
  (with_reducible rename Fr _ _ _ _ => F9)
  (with_reducible rename News _ _ _ _ => N9)
  (with_reducible rename IntsAre _ (rangeKs _ _) => I9)
  have er : rangeKs 0 ((ks.length : Int) - 0).toNat = (List.range ks.length).map fun i => ((i : Nat) : Int) := by
    rw [show ((ks.length : Int) - 0).toNat = ks.length by (first | lia | omega)]
    unfold rangeKs
    exact List.map_congr_left fun k _ => Int.zero_add _
  rw [er] at I9
  refine While_inv (fun q m₂ nx => ∃ (la : Addr) (lv : List Value) (nl : Nat) (left : List Int) (tc : Tok) (oc : Obj) (vc : Option Value) (xs : List Nat), nx = [(la, PySem.W.listOf lv.toArray nl), (s.heap.objs.size + 1, oc)] ∧ (@Ne Nat (s.heap.objs.size + 1) la) ∧ oc.data = .cell vc ∧
      IntsAre lv left ∧ Lft ks.length (fn ks) m xs left ∧ q = left.length ∧ m₂ (Str.ofString "left") = some (.ref la) ∧ m₂ (Str.ofString "found") = some (.int (xs.length : Nat) tc) ∧ m₂ (Str.ofString "order") = some (.bytes x t)) (n₀ := ks.length)
      F9 (news_sub N9 (b := [(_, PySem.W.listOf _ _), (s.heap.objs.size + 1, _)]) (by kcf_all)) ⟨_, _, _, _, _, _, _, [], rfl, (by k_ne), (by assumption), I9, Lft.init, by simp, rfl, rfl, rfl⟩ ?_
  rintro q m₂ nx h₂ tk₂ F₂ N₂ ⟨la, lv, nl, left, tc, oc, vc, xs, rfl, l8, d8, hlv, hL, hq, g1, g2, g3⟩
  have F7 := frame1 (frame1 (frame1 F₂ g3) (a := Str.ofString "found") (u := .int (xs.length : Nat) tc) ((if_neg (by decide)).trans g2)) (a := Str.ofString "left") (u := .ref la) ((if_neg (by decide)).trans ((if_neg (by decide)).trans g1))
  clear F₂ F9 N9
  have hll : left.length ≤ 400 := Nat.le_trans hL.le h900
  rcases Nat.eq_zero_or_pos left.length with hz | hz
  · obtain rfl := List.length_eq_zero_iff.mp hz
    k_steps
    · refine hret _ _ _ (Fr.keep (by assumption)) ⟨_, congrArg (fun z : Nat => Value.int z _) (Lft.stop hL).symm⟩
    all_goals (exfalso; simp_all; done)
  k_steps
  · exfalso
    (with_reducible rename decide _ = true => e9)
    rw [of_decide_eq_true e9] at hz
    exact Nat.lt_irrefl _ hz
  unfold Later
  (with_reducible rename Fr _ _ _ _ => F9)
  (with_reducible rename News _ _ _ _ => N9)
  (with_reducible rename Obj => oc9)
  (with_reducible rename _ = Data.cell (some (Value.ref _)) => d9)
  (with_reducible rename _ ∧ @LT.lt Nat _ la _ ∧ _ => l9)
  have hx0 : left.getD (Int.toNat 0) 0 ∈ left := by
    rw [List.getD_eq_getElem?_getD, List.getElem?_eq_getElem (show Int.toNat 0 < left.length from hz)]; exact List.getElem_mem _
  generalize hy0 : left.getD (Int.toNat 0) 0 = y0 at *
  obtain ⟨y00, y01⟩ := hL.low _ hx0
  obtain ⟨x0, rfl⟩ : ∃ x0 : Nat, y0 = (x0 : Int) := ⟨y0.toNat, by (first | lia | omega)⟩
  refine For_grow (n₀ := 2 * miss ks.length [(x0 : Int)] + 1) (items := [_]) (fun k i m₃ nx its => ∃ (nn : Nat) (p : List Int), nx = [(_, PySem.W.listOf its.toArray nn), (la, PySem.W.listOf lv.toArray nl), (s.heap.objs.size + 1, oc9)] ∧ IntsAre its p ∧ Pce ks.length (fn ks) m x0 p i ∧ k = 2 * miss ks.length p + p.length - i ∧
    m₃ (Str.ofString "left") = some (.ref la) ∧ m₃ (Str.ofString "found") = some (.int (xs.length : Nat) tc) ∧ m₃ (Str.ofString "order") = some (.bytes x t)) rfl rfl rfl F9 (news_sub N9 (b := [(_, PySem.W.listOf _ _), (la, _), (s.heap.objs.size + 1, _)]) (by kcf_all)) (fun Q' q => nameX_C N9 rfl (by (first | exact List.Mem.head _ | exact List.Mem.tail _ (List.Mem.head _) | exact List.Mem.tail _ (List.Mem.tail _ (List.Mem.head _)) | exact List.Mem.tail _ (List.Mem.tail _ (List.Mem.tail _ (List.Mem.head _))))) d9 q rfl rfl)
    ?hmem ⟨0, _, rfl, .cons _ _ .nil, Pce.init (by (first | lia | omega)), by simp, rfl, rfl, rfl⟩ ?_ ?_
  case hmem => exact fun k i m₃ nx its hJ => by obtain ⟨nn, p, e, _⟩ := hJ; exact ⟨nn, e ▸ List.Mem.head _⟩
  · rintro k i v m₃ nx its h₃ tk₃ I oI ⟨nn, p, rfl, hI, hP, hk', q1, q2, q3⟩ hv hoff F₃ N₃
    obtain ⟨y, ty, rfl, hy⟩ := intsAre_get hI hv
    have F8 := frame_in (frame_in (frame_in F₃ q3) (m := fun z => if z = Str.ofString "order" then some (.bytes x t) else m₃ z) ((if_neg (by decide)).trans q2)) (m := fun z => if z = Str.ofString "found" then some (.int (xs.length : Nat) tc) else if z = Str.ofString "order" then some (.bytes x t) else m₃ z) ((if_neg (by decide)).trans ((if_neg (by decide)).trans q1))
    clear F₃ F9 N9
    obtain ⟨yl, yh, yc⟩ := hP.low y (List.mem_of_getElem? hy)
    have hpl : p.length ≤ 800 := by have := hP.few; (first | lia | omega)
    have hpi := hI.length
    have hlen := ho.len
    have hm4 := ho.few
    k_with "CompSrcT" => k_dflt (refine src_filt (fun z => decide (z ∉ p)) (by rfl) (by k_asm) (by k_asm) (by kcf_m) (.cons _ _ (.cons _ _ .nil)) (by rw [PySem.sizeLine_eq]; exact (by decide : 2 ≤ 16777216)) (fun gh => Later.out ?_) (fun gh ys hy2 hl2 => ?_))
    k_steps
    · unfold Later TurnF
      intro k1 t1 I1 oI1 C1 oC1 D1 m3 ys1 l1 h1 tk1 E1 hk1 hI1 hC1 hx1 F1 N1 off1 ne1 hM1
      k_steps
      all_goals first
        | exact not_any p k1
        | ((refine' LCg.CompEnd.intro ?ceF ?ceN ?ceL ?ceS ?ceO ?ceR ?_); (case ceO => assumption); (case ceF => k_asm); (case ceN => k_asm); (case ceS => kcf_all); (case ceR => lcg_src); k_steps)
    · unfold Later
      (with_reducible rename Fr _ _ _ _ => F9)
      (with_reducible rename News _ _ _ _ => N9)
      (with_reducible rename 0 ≤ ks.getD y.toNat 0 => hlo9)
      have hmore := hP.more ho.perm ho.len hy _ rfl
      rw [show ((fn ks y.toNat : Nat) : Int) = ks.getD y.toNat 0 by unfold fn; (first | lia | omega)] at hmore
      replace hl2 : ys.length ≤ 2 := hl2
      generalize hq9 : ([ks.getD y.toNat 0, ((flip y.toNat : Nat) : Int)].filter fun z => decide (z ∉ p)) = q9 at hmore hy2
      refine extend_L F9 N9 (its := its) (its2 := ys) (q := q9) (rest := [(I, oI), (la, PySem.W.listOf lv.toArray nl), (s.heap.objs.size + 1, oc9)]) (by kcf_m) (List.Mem.head _) ?_ ?_ hI hy2 ?_
      · exact List.forall_mem_cons.mpr ⟨⟨by kcf_m, fun e => hoff _ (List.Mem.head _) e.symm⟩, List.forall_mem_cons.mpr ⟨⟨by kcf_m, by k_ne⟩, List.forall_mem_cons.mpr ⟨⟨by kcf_m, by k_ne⟩, fun _ h => nomatch h⟩⟩⟩
      · (first | lia | omega)
      · intro h9 n9 ws9 F10 N10 I10
        clear F9 N9
        k_steps
        (with_reducible rename Fr _ _ _ _ => F11)
        (with_reducible rename News _ _ _ _ => N11)
        refine GrowStep.intro (its' := ws9) (nx' := [(_, PySem.W.listOf ws9.toArray n9), (la, PySem.W.listOf lv.toArray nl), (s.heap.objs.size + 1, oc9)]) F11 N11 (List.Mem.tail _ (List.Mem.head _)) ?_ ?_ (by rw [hk']; exact hmore.2) ⟨_, _, rfl, I10, hmore.1, rfl, rfl, rfl, rfl⟩
        · kcf_all
        · exact List.forall_mem_cons.mpr ⟨hoff (_, PySem.W.listOf its.toArray nn) (List.Mem.head _), List.forall_mem_cons.mpr ⟨hoff _ (List.Mem.tail _ (List.Mem.head _)), List.forall_mem_cons.mpr ⟨hoff _ (List.Mem.tail _ (List.Mem.tail _ (List.Mem.head _))), fun _ h => nomatch h⟩⟩⟩
  · rintro k i m₃ nx its h₃ tk₃ ⟨nn, p, rfl, hI, hP, hk', q1, q2, q3⟩ hv F₃ N₃
    have F8 := frame1 (frame1 (frame1 F₃ q3) (a := Str.ofString "found") (u := .int (xs.length : Nat) tc) ((if_neg (by decide)).trans q2)) (a := Str.ofString "left") (u := .ref la) ((if_neg (by decide)).trans ((if_neg (by decide)).trans q1))
    clear F₃ F9 N9
    have hpi := hI.length
    have hple : p.length ≤ i := by rw [← hpi]; simpa using hv
    have hpl : p.length ≤ 800 := by have := hP.few; (first | lia | omega)
    have hxl : xs.length ≤ 400 := Nat.le_trans hL.few h900
    (k_with "CompSrcT" => k_dflt (refine src_filt (fun z => decide (z ∉ p)) (by rfl) (by k_asm) (by k_asm) (by kcf_m) (by assumption) (by rw [PySem.sizeLine_eq]; (first | lia | omega)) (fun gh => Later.out ?_) (fun gh ys hy hl => ?_)))
    k_steps
    · unfold Later TurnF
      intro k1 t1 I1 oI1 C1 oC1 D1 m3 ys1 l1 h1 tk1 E1 hk1 hI1 hC1 hx1 F1 N1 off1 ne1 hM1
      k_steps
      all_goals first
        | exact not_any p k1
        | ((refine' LCg.CompEnd.intro ?ceF ?ceN ?ceL ?ceS ?ceO ?ceR ?_); (case ceO => assumption); (case ceF => k_asm); (case ceN => k_asm); (case ceS => kcf_all); (case ceR => lcg_src); k_steps)
    · (with_reducible rename Fr _ _ _ _ => F11)
      (with_reducible rename News _ _ _ _ => N11)
      have hnx := hL.next ho.perm ho.len hx0 hP hple
      refine WhileStep.intro (n' := (left.filter fun z => decide (z ∉ p)).length) F11 (news_sub N11 (b := [(_, PySem.W.listOf ys.toArray _), (s.heap.objs.size + 1, oc9)]) (by kcf_all)) (by rw [hq]; exact hnx.2) ⟨_, ys, _, _, _, oc9, _, xs ++ [x0], rfl, ?_, d9, hy, hnx.1, rfl, rfl, by rw [List.length_append]; rfl, rfl⟩
      k_ne

theorem fiel_len (ks : List Int) : (fiel ks).length = ks.length := by simp [fiel]
theorem fn_fiel {ks : List Int} {m : Nat} (_ho : Ord ks m) {i : Nat} (hi : i < ks.length) : fn (fiel ks) i = fie (fn ks) i := by
  unfold fn fie fiel
  rw [List.getD_eq_getElem?_getD, List.getElem?_eq_getElem (by simpa using hi)]
  simp
theorem ord_fiel {ks : List Int} {m : Nat} (ho : Ord ks m) : Ord (fiel ks) m := by
  refine ⟨by rw [fiel_len]; exact ho.len, ho.pos, ho.few, ?_, fun k hk => ?_⟩
  · rw [fiel_len]
    exact perm_congr (fun x hx => (fn_fiel ho hx).symm) (fie_perm ho.perm ho.len)
  · obtain ⟨i, _, rfl⟩ := List.mem_map.mp hk
    rw [List.getD_eq_getElem?_getD]
    cases e : ks[flip i]? with
    | none => simp
    | some k => exact ho.low k (List.mem_of_getElem? e)
theorem num_fiel {ks : List Int} {m : Nat} (ho : Ord ks m) : num (fiel ks).length (stp (fiel ks).length (fn (fiel ks))) = num ks.length (stp ks.length (fie (fn ks))) := by
  rw [fiel_len]
  exact stp_congr fun x hx => fn_fiel ho hx
/-- what is told of an order -/
def Told (ks : List Int) (m : Nat) (h h' : Heap) (r : Value) : Prop :=
  ∃ (a : Addr) (t1 t2 t3 t4 : Tok), r = .ref a ∧ h.get? a = none ∧ h'.get? a = some { cls := .type "tuple", data := .seq #[.int (num ks.length (stp ks.length (fn ks)) : Nat) t1, .int (m : Nat) t2, .int (num ks.length (stp ks.length (fie (fn ks))) : Nat) t3, .int (num ks.length (pg ks.length (fn ks) m) : Nat) t4] }
section
variable {A : Around} {h₀ : Heap} {L : Addr} {m' : Str → Option Value} {news : List (Addr × Obj)} {s : Shared} {E : Value → Shared → Prop}
theorem rings_K {w : World} {loose : List Str} {mean : ExcName → Option Value} {mg mb : Str → Option Value} {x : Array UInt8} {t : Tok} {ks : List Int} (hk : KBw.bInts x = ks) {m : Nat} (ho : Ord ks m) {Q : Value → Shared → Prop} (hh : A.handled = none)
    (F : Fr h₀ L s.heap m') (N : News h₀ L s.heap news) (X : (Mine.hd.heap_39 w.params).In h₀) (T : Top Mine.hd.view_39 loose mean mg mb h₀) (hd : A.depth + 10 < recursionLimit) (hu : A.units + 100 < cLine)
    (h : ∀ a (refs : List Value) nf h' k, Fr h₀ L h' m' → News h₀ L h' ((a, PySem.W.listOf refs.toArray nf) :: news) → refs.toArray.size = num ks.length (stp ks.length (fn ks)) → num ks.length (stp ks.length (fn ks)) ≤ 8 → Q (.ref a) { s with heap := h', toks := k }) :
    wpAny (model Challenge.rw_ic0001_01.row.toRowW.prog w) A (call (.ref 46) [.bytes x t]) Q E s := by
  refine use_tellsH (rings_tells w loose mean mg mb x t ks hk m ho) hh F N X T hd hu fun r h' k _ F' N' hnew hr => ?_
  obtain ⟨a, refs, nf, inner, xs, rs, rfl, ha, ha', hin, hI, hf, hall⟩ := hr
  obtain ⟨n1, n2, n3⟩ := hnew a ha
  refine h a refs nf h' k F' (fun p hp => ?_) (by rw [List.size_toArray, hI.len]; exact (hf.sys ho.perm hall).symm) (by rw [hf.sys ho.perm hall]; have := hf.few; have := ho.len; have := ho.few; (first | lia | omega))
  rcases List.mem_cons.mp hp with rfl | hp
  · exact ⟨ha', n1, n2⟩
  · exact N' p hp
end
set_option maxHeartbeats 1000000 in
theorem told_tells (w : World) (loose : List Str) (mean : ExcName → Option Value) (mg mb : Str → Option Value) (x : Array UInt8) (t : Tok) (ks : List Int) (hk : KBw.bInts x = ks) (m : Nat) (ho : Ord ks m) :
    TellsH Challenge.rw_ic0001_01.row.toRowW.prog w (Mine.hd.heap_39 w.params) Mine.hd.view_39 loose mean mg mb 63 12 140 [.bytes x t] (Told ks m) := by
  w_top off
  k_fill
  k_with_none
  k_with "call ref" => (k_here; (with_reducible show wpAny _ _ (call (Value.ref 46) [Value.bytes _ _]) _ _ _); k_dflt (refine' rings_K (m := _) ?qw_hk ?qw_ho ?qw_hh ?qw_F ?qw_N ?qw_X ?qw_T ?qw_d ?qw_u ?_; (case qw_hk => with_reducible assumption); (case qw_ho => assumption); (case qw_hh => exact rfl); (case qw_F => k_asm); (case qw_N => k_asm); (case qw_X => assumption); (case qw_T => assumption); (case qw_d => ktr_room); (case qw_u => ktr_units)); intro a_w refs_w nf_w h_w k_w F_w N_w hr8_w hl8_w)
  k_with "call ref" => (k_here; (with_reducible show wpAny _ _ (call (Value.ref 51) [Value.bytes _ _]) _ _ _); k_dflt (refine' use_tells (fields_tells _ _ _ _ _ _ _ _ ?qw_hk _ ?qw_hm ?qw_hm1 ?qw_hm4) ?qw_hh ?qw_F ?qw_N ?qw_X ?qw_T ?qw_d ?qw_u ?qw_p ?_; (case qw_hk => with_reducible assumption); (case qw_hm => exact Ord.len (by assumption)); (case qw_hm1 => exact Ord.pos (by assumption)); (case qw_hm4 => exact Ord.few (by assumption)); (case qw_hh => exact rfl); (case qw_F => k_asm); (case qw_N => k_asm); (case qw_X => assumption); (case qw_T => assumption); (case qw_d => ktr_room); (case qw_u => ktr_units); (case qw_p => trivial)); intro r_w h_w k_w F_w N_w hr_w; obtain ⟨y_w, t_w, e9_w, e_w⟩ := hr_w; subst e9_w)
  k_with "call ref" => (k_here; (with_reducible show wpAny _ _ (call (Value.ref 56) [Value.bytes _ _]) _ _ _); k_dflt (refine' use_tells (pieces_tells _ _ _ _ _ _ _ _ ?qw_hk _ ?qw_ho) ?qw_hh ?qw_F ?qw_N ?qw_X ?qw_T ?qw_d ?qw_u ?qw_p ?_; (case qw_hk => with_reducible assumption); (case qw_ho => assumption); (case qw_hh => exact rfl); (case qw_F => k_asm); (case qw_N => k_asm); (case qw_X => assumption); (case qw_T => assumption); (case qw_d => ktr_room); (case qw_u => ktr_units); (case qw_p => trivial)); intro r_w h_w k_w F_w N_w hr_w; obtain ⟨t_w, e9_w⟩ := hr_w; subst e9_w)
  k_with "call builtin:len" => (k_here; (with_reducible show wpAny _ _ (call (Value.builtin "len") [Value.ref _]) _ _ _); k_dflt (refine' KM.len_K ?qw_N ?qw_m ?qw_s ?qw_f ?_; (case qw_N => k_asm); (case qw_m => k_mem); (case qw_s => with_reducible assumption); (case qw_f => (first | lia | omega))))
  unfold TellsH
  intro dp un fr gd s Q E X T hd hu hret
  have hin := bInts_in hk
  have hof := ord_fiel ho
  have h400 : ks.length ≤ 400 := by have := ho.len; have := ho.few; (first | lia | omega)
  k_dflt (refine' enter ?k1 ?k2 ?k3 ?k4 ?k5 ?k6 ?k7 ?c1 ?c2 ?c3 ?c4 ?_; (case k1 => assumption); (case k2 => assumption); (case k3 => k_is); (case k4 => k_is); (case k5 => ktr_room); (case k6 => first | exact BindsTo.of_eq rfl | exact binds_K (by k_in) rfl (by k_is) rfl rfl rfl); (case k7 => exact locs rfl); (case c1 => exact rfl); (case c2 => exact rfl); (case c3 => exact rfl); (case c4 => decide); k_whole; intro h' F' N'; (try dsimp only); (try k_fold))
  k_steps
  (with_reducible rename News _ _ _ _ => N9)
  have e1 : Int.fdiv (ks.length : Int) 2 = (m : Nat) := by
    rw [Int.fdiv_eq_ediv_of_nonneg _ (by decide)]; have := ho.len; (first | lia | omega)
  rw [num_fiel ho, e1] at N9
  exact hret _ _ _ (Fr.keep (by assumption)) ⟨_, _, _, _, _, rfl, (N9 _ (List.Mem.head _)).2.2, (N9 _ (List.Mem.head _)).1⟩

/- an end passed by, on lists -/
structure Prm (ns : List Int) (n : Nat) : Prop where
  len : ns.length = n
  perm : PermOn n (fn ns)
  low : ∀ k ∈ ns, 0 ≤ k
theorem Ord.prm {ks : List Int} {m : Nat} (h : Ord ks m) : Prm ks ks.length := ⟨rfl, h.perm, h.low⟩
def bypL (ns : List Int) (e : Nat) : List Int := (ns.set (ns.idxOf (e : Int)) (ns.getD e 0)).set e (e : Int)
theorem Prm.at {ns : List Int} {n : Nat} (h : Prm ns n) {i : Nat} (hi : i < n) : ns.getD i 0 = ((fn ns i : Nat) : Int) := by
  have hl : i < ns.length := by rw [h.len]; exact hi
  have hm : ns.getD i 0 ∈ ns := by rw [List.getD_eq_getElem?_getD, List.getElem?_eq_getElem hl]; exact List.getElem_mem _
  have := h.low _ hm
  unfold fn; (first | lia | omega)
theorem Prm.mem {ns : List Int} {n : Nat} (h : Prm ns n) {e : Nat} (he : e < n) : (e : Int) ∈ ns := by
  obtain ⟨y, hy, hf⟩ := pre_ex h.perm he
  have := h.at hy
  rw [hf] at this
  rw [← this, List.getD_eq_getElem?_getD, List.getElem?_eq_getElem (by rw [h.len]; exact hy)]
  exact List.getElem_mem _
theorem Prm.idx {ns : List Int} {n : Nat} (h : Prm ns n) {e : Nat} (he : e < n) : ns.idxOf (e : Int) < n ∧ fn ns (ns.idxOf (e : Int)) = e := by
  have hm := h.mem he
  have hl : ns.idxOf (e : Int) < ns.length := List.idxOf_lt_length_iff.mpr hm
  refine ⟨h.len ▸ hl, ?_⟩
  unfold fn
  rw [List.getD_eq_getElem?_getD, List.getElem?_eq_getElem hl, Option.getD_some, List.getElem_idxOf hl]
  exact Int.toNat_natCast e
theorem getD_set2 {l : List Int} {j i : Nat} {v : Int} (hj : j < l.length) : (l.set j v).getD i 0 = if j = i then v else l.getD i 0 := by
  rw [List.getD_eq_getElem?_getD, List.getElem?_set]
  by_cases e : j = i
  · subst e; simp [hj]
  · simp [e, List.getD_eq_getElem?_getD]
theorem bypL_fn {ns : List Int} {n : Nat} (h : Prm ns n) {e i : Nat} (he : e < n) (hi : i < n) : (bypL ns e).getD i 0 = ((byp (fn ns) e i : Nat) : Int) := by
  obtain ⟨h1, h2⟩ := h.idx he
  unfold bypL byp
  rw [getD_set2 (by rw [List.length_set, h.len]; exact he), getD_set2 (by rw [h.len]; exact h1)]
  by_cases e1 : e = i
  · rw [if_pos e1, if_pos e1.symm]
  · rw [if_neg e1, if_neg (Ne.symm e1)]
    by_cases e2 : ns.idxOf (e : Int) = i
    · rw [if_pos e2, ← e2, h2, if_pos rfl, h.at he]
    · rw [if_neg e2, if_neg (fun q => e2 (h.perm.2 _ _ h1 hi (h2.trans q.symm)).symm.symm), h.at hi]
theorem bypL_prm {ns : List Int} {n : Nat} (h : Prm ns n) {e : Nat} (he : e < n) : Prm (bypL ns e) n := by
  have hl : (bypL ns e).length = n := by unfold bypL; rw [List.length_set, List.length_set, h.len]
  refine ⟨hl, perm_congr (fun x hx => ?_) (byp_perm h.perm he), fun k hk => ?_⟩
  · show byp (fn ns) e x = ((bypL ns e).getD x 0).toNat
    rw [bypL_fn h he hx, Int.toNat_natCast]
  · obtain ⟨i, hi, rfl⟩ := List.getElem_of_mem hk
    have := bypL_fn h he (i := i) (by rw [← hl]; exact hi)
    rw [List.getD_eq_getElem?_getD, List.getElem?_eq_getElem hi, Option.getD_some] at this
    rw [this]; (first | lia | omega)
theorem bypL_cut {ns : List Int} {n t : Nat} (h : Prm ns n) (ht : 2 * t + 1 < n) {i : Nat} (hi : i < n) : (bypL (bypL ns (2 * t)) (2 * t + 1)).getD i 0 = ((cut (fn ns) t i : Nat) : Int) := by
  have p1 := bypL_prm h (e := 2 * t) (by (first | lia | omega))
  rw [bypL_fn p1 ht hi]
  unfold cut
  have key : ∀ x, x < n → fn (bypL ns (2 * t)) x = byp (fn ns) (2 * t) x := fun x hx => by
    unfold fn; rw [bypL_fn h (by (first | lia | omega)) hx, Int.toNat_natCast]
    rfl
  have : byp (fn (bypL ns (2 * t))) (2 * t + 1) i = byp (byp (fn ns) (2 * t)) (2 * t + 1) i := by
    show (if i = 2 * t + 1 then 2 * t + 1 else if fn (bypL ns (2 * t)) i = 2 * t + 1 then fn (bypL ns (2 * t)) (2 * t + 1) else fn (bypL ns (2 * t)) i) = (if i = 2 * t + 1 then 2 * t + 1 else if byp (fn ns) (2 * t) i = 2 * t + 1 then byp (fn ns) (2 * t) (2 * t + 1) else byp (fn ns) (2 * t) i)
    rw [key i hi, key _ ht]
  rw [this]
/-- the ends' names behind it -/
def namesL (n t : Nat) : List Int := ((List.range n).map fun i => ((i : Nat) : Int)).filter fun k => decide (¬ Int.fdiv k 2 = (t : Int))
theorem names_eq : ∀ m, m ≤ 4 → ∀ t, t < m → namesL (2 * m) t = (List.range (2 * m - 2)).map fun i => ((nm t i : Nat) : Int) := by decide +kernel
theorem names_idx (m : Nat) (hm : m ≤ 4) (t : Nat) (ht : t < m) (x : Nat) (hx : x < 2 * m) (ho : ¬ (x = 2 * t ∨ x = 2 * t + 1)) : ((x : Nat) : Int) ∈ namesL (2 * m) t ∧ (namesL (2 * m) t).idxOf ((x : Nat) : Int) = idx t x := by
  have key : ∀ (m : Fin 5) (t : Fin 4) (x : Fin 8), (decide (t.val < m.val) && decide (x.val < 2 * m.val) && !(decide (x.val = 2 * t.val) || decide (x.val = 2 * t.val + 1))) = true → (decide (((x.val : Nat) : Int) ∈ namesL (2 * m.val) t.val) && decide ((namesL (2 * m.val) t.val).idxOf ((x.val : Nat) : Int) = idx t.val x.val)) = true := by decide +kernel
  have := key ⟨m, by (first | lia | omega)⟩ ⟨t, by (first | lia | omega)⟩ ⟨x, by (first | lia | omega)⟩ (by simp only [Bool.and_eq_true, Bool.not_eq_true', Bool.or_eq_false_iff, decide_eq_true_eq, decide_eq_false_iff_not]; (first | lia | omega))
  simpa only [Bool.and_eq_true, decide_eq_true_eq] using this
/-- the order without the tie t -/
def lessL (ks : List Int) (t : Nat) : List Int := (List.range (ks.length - 2)).map fun i => ((les (fn ks) t i : Nat) : Int)
theorem less_at {ks : List Int} {m t : Nat} (ho : Ord ks m) (ht : t < m) {i : Nat} (hi : i < ks.length - 2) :
    nm t i < ks.length ∧ (namesL ks.length t).idxOf ((bypL (bypL ks (2 * t)) (2 * t + 1)).getD (nm t i) 0) = les (fn ks) t i ∧ (bypL (bypL ks (2 * t)) (2 * t + 1)).getD (nm t i) 0 ∈ namesL ks.length t := by
  have hlen := ho.len
  have h2 : 2 * t + 1 < ks.length := by (first | lia | omega)
  have hn := nm_lt h2 hi
  have hc := cut_own ho.perm h2 hn
  have hno := nm_own t i
  have hcl := (cut_perm ho.perm h2).1 _ hn
  obtain ⟨a, b⟩ := names_idx m ho.few t ht (cut (fn ks) t (nm t i)) (by (first | lia | omega)) (fun q => hno (hc.mpr q))
  rw [bypL_cut ho.prm h2 hn, hlen]
  exact ⟨by (first | lia | omega), b, a⟩
theorem less_map {ks : List Int} {m t : Nat} (ho : Ord ks m) (ht : t < m) : ((namesL ks.length t).map fun z => (((namesL ks.length t).idxOf ((bypL (bypL ks (2 * t)) (2 * t + 1)).getD z.toNat 0) : Nat) : Int)) = lessL ks t := by
  have hlen := ho.len
  have e : namesL ks.length t = (List.range (ks.length - 2)).map fun i => ((nm t i : Nat) : Int) := by rw [hlen]; exact names_eq m ho.few t ht
  unfold lessL
  conv => lhs; arg 2; rw [e]
  rw [List.map_map]
  refine List.map_congr_left fun i hi => ?_
  show (((namesL ks.length t).idxOf ((bypL (bypL ks (2 * t)) (2 * t + 1)).getD ((nm t i : Nat) : Int).toNat 0) : Nat) : Int) = _
  rw [Int.toNat_natCast, (less_at ho ht (List.mem_range.mp hi)).2.1]
theorem fn_less {ks : List Int} {t i : Nat} (hi : i < ks.length - 2) : fn (lessL ks t) i = les (fn ks) t i := by
  show ((lessL ks t).getD i 0).toNat = _
  unfold lessL
  rw [List.getD_eq_getElem?_getD, List.getElem?_eq_getElem (by simpa using hi)]
  rw [Option.getD_some, List.getElem_map, List.getElem_range, Int.toNat_natCast]
theorem ord_less {ks : List Int} {m t : Nat} (ho : Ord ks m) (ht : t < m) (h2 : 2 ≤ m) : Ord (lessL ks t) (m - 1) := by
  have hlen := ho.len
  have hl : (lessL ks t).length = ks.length - 2 := by simp [lessL]
  refine ⟨by (first | lia | omega), by (first | lia | omega), by have := ho.few; (first | lia | omega), ?_, fun k hk => ?_⟩
  · rw [hl]
    exact perm_congr (fun x hx => (fn_less hx).symm) (les_perm ho.perm (by (first | lia | omega)))
  · obtain ⟨i, _, rfl⟩ := List.mem_map.mp hk
    (first | lia | omega)

section
variable {prog : Program} {w : World} {A : Around} {E : Value → Shared → Prop} {s : Shared} {h₀ : Heap} {L D : Addr} {m : Str → Option Value} {news : List (Addr × Obj)} {vs : List Value} {ns : List Int} {n : Nat} {k : Int} {t : Tok}
/-- where an int stands in a list of the ledger -/
theorem index_L {Q : Value → Shared → Prop} (N : News h₀ L s.heap news) (hm : (D, PySem.W.listOf vs.toArray n) ∈ news) (hI : IntsAre vs ns) (hk : k ∈ ns) (hz : ns.length ≤ 1000)
    (h : ns.idxOf k < ns.length → Q (.int (ns.idxOf k : Nat) s.toks) { s with toks := s.toks + 1 }) : wpAny (model prog w) A (call (.builtin "list.index") [.ref D, .int k t]) Q E s := by
  have hl := hI.length
  have hj : ns.idxOf k < ns.length := List.idxOf_lt_length_iff.mpr hk
  have hD := (N _ hm).1
  refine call_meets PySem.F.slot_list_index ⟨_, hD, rfl⟩ PySem.F.entry_list_index (PySem.F.args_list_index_2 _ _)
    (SeqAt.list_indexAt D vs.toArray n none #[] (.int k t) (isInt k) (ns.idxOf k) (by rw [List.size_toArray, hl]; exact hj) (by (first | lia | omega)) ?_ fun i hi hlt => ?_) ⟨hD, fun y hy => (eq_isInt k t hI y (by simpa using hy)).at _ _, h hj⟩
  · have e := isInt_at k hI (ns.idxOf k) (by (first | lia | omega)) hj
    rw [List.getElem_toArray, e, List.getElem_idxOf hj]
    exact decide_eq_true rfl
  · have hi' : i < vs.length := by simpa using hi
    have e := isInt_at k hI i hi' (by (first | lia | omega))
    rw [List.getElem_toArray]
    exact e.trans (ne_of_lt_idxOf hlt _)
theorem make_B {D : Addr} {vs : List Value} {ns : List Int} {Q : Value → Shared → Prop} (F : Fr h₀ L s.heap m) (N : News h₀ L s.heap news) (hh : A.handled = none) (hl : s.heap.IsList D vs.toArray) (hi : IntsAre vs ns) (hr : KBa.In ns) (hn : ns.length ≤ 16777216)
    (h : ∀ h' b t' k, Fr h₀ L h' m → News h₀ L h' news → KBw.bInts b = ns → Q (.bytes b t') { s with heap := h', toks := k }) : wpAny (model prog w) A (call (.type "bytes") [.ref D]) Q E s :=
  KBa.make_K F N hh hl hi hr hn fun h' t' k F' N' hr' => h h' _ t' k F' N' (KBa.ints_make hr')
theorem list_bytesL {Q : Value → Shared → Prop} {b : Array UInt8} {ks : List Int} (F : Fr h₀ L s.heap m) (N : News h₀ L s.heap news) (hh : A.handled = none) (hk : KBw.bInts b = ks) (hz : ks.length ≤ 16777216)
    (h : ∀ D (vs : List Value) c h' k, Fr h₀ L h' m → News h₀ L h' ((D, PySem.W.listOf vs.toArray c) :: news) → (∀ q ∈ news, q.1 < D) → IntsAre vs ks → Q (.ref D) { s with heap := h', toks := k }) :
    wpAny (model prog w) A (call (.type "list") [.bytes b t]) Q E s :=
  list_bytes F N hh hk hz fun D vs c h' k F' N' l i => h D vs.toList c h' k F' N' l i
end
set_option maxHeartbeats 4000000 in
theorem less_tells (w : World) (loose : List Str) (mean : ExcName → Option Value) (mg mb : Str → Option Value) (x : Array UInt8) (t tt : Tok) (ks : List Int) (hk : KBw.bInts x = ks) (m : Nat) (ho : Ord ks m) (tq : Nat) (h1 : tq < m) (h2 : 2 ≤ m) :
    Tells Challenge.rw_ic0001_01.row.toRowW.prog w (Mine.hd.heap_39 w.params) Mine.hd.view_39 loose mean mg mb 68 4 60 [.bytes x t, .int (tq : Nat) tt] (fun _ => True) (fun _ r => ∃ y t, r = .bytes y t ∧ KBw.bInts y = lessL ks tq) := by
  w_top off
  k_fill
  k_with_none
  k_with "call type:list" => (k_here; (with_reducible show wpAny _ _ (call (Value.type "list") [Value.bytes _ _]) _ _ _); k_dflt (refine' list_bytesL ?qw_F ?qw_N ?qw_hh ?qw_hk ?qw_hz ?_; (case qw_F => k_asm); (case qw_N => k_asm); (case qw_hh => exact rfl); (case qw_hk => with_reducible assumption); (case qw_hz => (first | lia | omega))); intro D_w vs_w c_w h_w k_w F_w N_w l1_w i_w; (try k_lt l1_w))
  k_with "eval ListComp" => (k_here; (with_reducible show wpAny _ _ (eval (Expr.ListComp (Expr.Name (Str.ofString "octet") _) [⟨Expr.Name (Str.ofString "octet") _, _, [_], _⟩] _ _) _) _ _ _); k_dflt (refine LCt.ListComp_T (F₀ := by k_asm) (by with_unfolding_all rfl) (by decide) (by rfl) (by decide) (by rfl) ?_))
  k_with "eval ListComp" => (k_here; (with_reducible show wpAny _ _ (eval (Expr.ListComp (Expr.Call _ _ _ _) [⟨Expr.Name (Str.ofString "octet") _, _, [], _⟩] _ _) _) _ _ _); k_dflt (refine LCg.ListComp_U (F₀ := by k_asm) (by with_unfolding_all rfl) (by decide) (by rfl) (by decide) (by rfl) ?_))
  k_with "CompEnd" => (refine' LCg.CompEnd.intro ?qw_ceF ?qw_ceN _ ?qw_ceS ?qw_ceO ?qw_ceR ?_; (case qw_ceO => assumption); (case qw_ceF => k_asm); (case qw_ceN => k_asm); (case qw_ceS => kcf_all); (case qw_ceR => lcg_src))
  k_with "call builtin:list.index" => refine Later.out ?_
  unfold Tells
  intro dp un fr gd s Q E X T hd hu _ hret
  have hin := bInts_in hk
  have h400 : ks.length ≤ 400 := by have := ho.len; have := ho.few; (first | lia | omega)
  have hlen := ho.len
  k_dflt (refine' enterC ?k1 ?k2 ?k3 ?k4 ?k5 ?k6 ?k7 ?k8 ?c1 ?c2 ?c3 ?_; (case k1 => assumption); (case k2 => assumption); (case k3 => k_is); (case k4 => k_is); (case k5 => ktr_room); (case k6 => first | exact BindsTo.of_eq rfl | exact binds_K (by k_in) rfl (by k_is) rfl rfl rfl); (case k7 => exact rfl); (case k8 => decide +kernel); (case c1 => exact rfl); (case c2 => exact rfl); (case c3 => exact rfl); k_whole; intro h' tk' cells' F' N' Y'; k_cells Y'; (try dsimp only); (try k_fold))
  k_steps
  unfold Later
  (with_reducible rename News _ _ _ _ => N9)
  (with_reducible rename IntsAre _ ks => I9)
  have e2 : (2 * (tq : Int)) = ((2 * tq : Nat) : Int) := by (first | lia | omega)
  refine index_L N9 (by kcf_m) I9 (e2 ▸ ho.prm.mem (by (first | lia | omega))) (by (first | lia | omega)) (fun hj => ?_)
  k_steps
  unfold Later
  (with_reducible rename News _ _ _ _ => N9)
  (with_reducible rename IntsAre (List.set (List.set _ _ _) _ _) _ => I8)
  have e3 : (2 * (tq : Int) + 1) = ((2 * tq + 1 : Nat) : Int) := by (first | lia | omega)
  have eL : (ks.set (((ks.idxOf (2 * (tq : Int)) : Nat) : Int)).toNat (ks.getD (2 * (tq : Int)).toNat 0)).set (2 * (tq : Int)).toNat (2 * (tq : Int)) = bypL ks (2 * tq) := by
    unfold bypL
    simp only [e2, Int.toNat_natCast]
  rw [eL] at I8 ⊢
  have p1 := bypL_prm ho.prm (e := 2 * tq) (by (first | lia | omega))
  have hl1 := p1.len
  refine index_L N9 (by kcf_m) I8 (e3 ▸ p1.mem (by (first | lia | omega))) (by (first | lia | omega)) (fun hj => ?_)
  k_with "CompSrcT" => k_dflt (refine src_filtR (n := ks.length) (fun z => decide (¬ Int.fdiv z 2 = (tq : Int))) (by rfl) (by k_asm) (by k_asm) (by assumption) (small_one (by (first | lia | omega)) (by (first | lia | omega)) (by (first | lia | omega)) (by (first | lia | omega))) ((rangeSize_nat _ _).trans (by (first | lia | omega))) (by rw [PySem.sizeLine_eq]; (first | lia | omega)) (fun gh => Later.out ?_) (fun gh ys hy hl => ?_))
  k_with "CompSrc" => k_dflt (refine src_mapL (fun z => (((namesL ks.length tq).idxOf ((bypL (bypL ks (2 * tq)) (2 * tq + 1)).getD z.toNat 0) : Nat) : Int)) (by rfl) (by k_asm) (by k_asm) (by kcf_m) (by assumption) (by rw [PySem.sizeLine_eq]; exact Nat.le_trans (List.length_filter_le _ _) (by rw [rangeKs_length]; (first | lia | omega))) (fun gh => Later.out ?_) (fun gh ys hy => ?_))
  k_steps
  · unfold Later TurnF
    intro k1 t1 I1 oI1 C1 oC1 D1 m3 ys1 l1 hp1 tk1 E1 hk1 hI1 hC1 hx1 F1 N1 off1 ne1 hM1
    k_steps
    show (Int.fdiv k1 2 != (tq : Int)) = decide (¬ Int.fdiv k1 2 = (tq : Int))
    by_cases h9 : Int.fdiv k1 2 = (tq : Int) <;> simp [h9]
  · unfold Later TurnM
    intro k1 t1 I1 oI1 C1 oC1 D1 m3 ys1 hp1 tk1 E1 hk1 hC1 hx1 F1 N1 off1 ne1 hM1
    have hkn := (List.mem_filter.mp hk1).1
    have hk0 := (mem_rangeKs hkn).1
    have hk2 := (mem_rangeKs hkn).2
    have er : rangeKs 0 ks.length = (List.range ks.length).map fun i => ((i : Nat) : Int) := by
      unfold rangeKs
      exact List.map_congr_left fun k _ => Int.zero_add _
    have hyn : (rangeKs 0 ks.length).filter (fun z => decide (¬ Int.fdiv z 2 = (tq : Int))) = namesL ks.length tq := by rw [er]; rfl
    obtain ⟨i1, hi1, e1⟩ : ∃ i, i < ks.length - 2 ∧ k1 = ((nm tq i : Nat) : Int) := by
      have en : namesL ks.length tq = (List.range (ks.length - 2)).map fun i => ((nm tq i : Nat) : Int) := by rw [hlen]; exact names_eq m ho.few tq h1
      rw [hyn, en] at hk1
      obtain ⟨i, hi, e⟩ := List.mem_map.mp hk1
      have := List.mem_range.mp hi
      exact ⟨i, by (first | lia | omega), e.symm⟩
    obtain ⟨la, lb, lc⟩ := less_at ho h1 hi1
    have eM : ((bypL ks (2 * tq)).set ((((bypL ks (2 * tq)).idxOf (2 * (tq : Int) + 1) : Nat) : Int)).toNat ((bypL ks (2 * tq)).getD (2 * (tq : Int) + 1).toNat 0)).set (2 * (tq : Int) + 1).toNat (2 * (tq : Int) + 1) = bypL (bypL ks (2 * tq)) (2 * tq + 1) := by
      conv => rhs; unfold bypL
      simp only [e3, Int.toNat_natCast]
      rfl
    have hll : ((rangeKs 0 ks.length).filter (fun z => decide (¬ Int.fdiv z 2 = (tq : Int)))).length ≤ 1000 := Nat.le_trans (List.length_filter_le _ _) (by rw [rangeKs_length]; (first | lia | omega))
    k_steps
    unfold Later
    (with_reducible rename News _ _ _ _ => N9)
    refine index_L N9 (by kcf_m) hy ?_ hll (fun _ => ?_)
    · rw [eM, hyn, e1, Int.toNat_natCast]; exact lc
    rw [eM, hyn]
    k_steps
    all_goals ((refine' LCg.CompEnd.intro ?ceF ?ceN ?ceL ?ceS ?ceO ?ceR ?_); (case ceO => assumption); (case ceF => k_asm); (case ceN => k_asm); (case ceS => kcf_all); (case ceR => lcg_src); k_steps)
  · (with_reducible rename Fr _ _ _ _ => F9)
    (with_reducible rename News _ _ _ _ => N9)
    have er : rangeKs 0 ks.length = (List.range ks.length).map fun i => ((i : Nat) : Int) := by
      unfold rangeKs
      exact List.map_congr_left fun k _ => Int.zero_add _
    rw [er] at hy
    have hless := less_map ho h1
    unfold namesL at hless hy
    rw [hless] at hy
    refine make_B F9 N9 rfl (News.isList N9 (List.Mem.head _)) hy ?_ ?_ ?_
    · intro z hz
      obtain ⟨i, hi, rfl⟩ := List.mem_map.mp hz
      have := (les_perm ho.perm (t := tq) (by (first | lia | omega))).1 i (List.mem_range.mp hi)
      have := ho.few
      (first | lia | omega)
    · simp [lessL]; (first | lia | omega)
    · intro h9 b9 t9 k9 F8 N8 e9
      exact hret _ _ _ F8.keep ⟨_, _, rfl, e9⟩

/- the numbers of an order with a tie less -/
theorem pg_congr {n m : Nat} {f g : Nat → Nat} (h : ∀ x, x < n → f x = g x) : num n (pg n f m) = num n (pg n g m) := by
  refine num_congr fun x y => ⟨fun e => e.mono fun x y k => ?_, fun e => e.mono fun x y k => ?_⟩
  · rcases k with ⟨hx, e⟩ | k
    · exact .rel (.inl ⟨hx, by rw [← h x hx]; exact e⟩)
    · exact .rel (.inr k)
  · rcases k with ⟨hx, e⟩ | k
    · exact .rel (.inl ⟨hx, by rw [h x hx]; exact e⟩)
    · exact .rel (.inr k)
theorem less_len (ks : List Int) (t : Nat) : (lessL ks t).length = ks.length - 2 := by simp [lessL]
section
variable {ks : List Int} {m t : Nat}
theorem lessC (ho : Ord ks m) (ht : t < m) (hb0 : fn ks (2 * t) ≠ 2 * t) (hb1 : fn ks (2 * t + 1) ≠ 2 * t + 1) (hbo : ¬ (fn ks (2 * t) = 2 * t + 1 ∧ fn ks (2 * t + 1) = 2 * t)) :
    num (lessL ks t).length (stp (lessL ks t).length (fn (lessL ks t))) = num ks.length (stp ks.length (fn ks)) := by
  have hl := ho.len
  rw [less_len]
  exact (stp_congr fun x hx => fn_less hx).trans (less_corners ho.perm (by (first | lia | omega)) hb0 hb1 hbo)
theorem lessF (ho : Ord ks m) (ht : t < m) (hb0 : fn ks (2 * t) ≠ 2 * t) (hb1 : fn ks (2 * t + 1) ≠ 2 * t + 1) (hbo : ¬ (fn ks (2 * t) = 2 * t + 1 ∧ fn ks (2 * t + 1) = 2 * t)) (hap : ¬ Cyc ks.length (fie (fn ks)) (2 * t) (2 * t + 1)) :
    num (lessL ks t).length (stp (lessL ks t).length (fie (fn (lessL ks t)))) + 1 = num ks.length (stp ks.length (fie (fn ks))) := by
  have hl := ho.len
  rw [less_len]
  have e : num (ks.length - 2) (stp (ks.length - 2) (fie (fn (lessL ks t)))) = num (ks.length - 2) (stp (ks.length - 2) (fie (les (fn ks) t))) := stp_congr fun x hx => by
    unfold fie
    refine fn_less ?_
    have := flip_lt (m := m - 1) (x := x) (by (first | lia | omega))
    (first | lia | omega)
  rw [e]
  exact less_fields ho.perm hl ht hb0 hb1 hbo hap
theorem lessP (ho : Ord ks m) (ht : t < m) (hb0 : fn ks (2 * t) ≠ 2 * t) (hb1 : fn ks (2 * t + 1) ≠ 2 * t + 1) (hbo : ¬ (fn ks (2 * t) = 2 * t + 1 ∧ fn ks (2 * t + 1) = 2 * t)) (hap : ¬ Cyc ks.length (fie (fn ks)) (2 * t) (2 * t + 1)) :
    num (lessL ks t).length (pg (lessL ks t).length (fn (lessL ks t)) (m - 1)) = num ks.length (pg ks.length (fn ks) m) := by
  have hl := ho.len
  rw [less_len]
  exact (pg_congr fun x hx => fn_less hx).trans (less_pieces ho.perm hl ht hb0 hb1 hbo hap)
end

/- the order told back; the order from the other end -/
def invL (ks : List Int) : List Int := (List.range ks.length).map fun i => ((ks.idxOf ((i : Nat) : Int) : Nat) : Int)
def revL (ks : List Int) : List Int := ks.reverse.map fun k => (ks.length : Int) - 1 - k
theorem fn_map {n : Nat} {g : Nat → Nat} {i : Nat} (hi : i < n) : fn ((List.range n).map fun i => ((g i : Nat) : Int)) i = g i := by
  unfold fn
  rw [List.getD_eq_getElem?_getD, List.getElem?_eq_getElem (by simpa using hi), Option.getD_some, List.getElem_map, List.getElem_range, Int.toNat_natCast]
theorem ord_map {ks : List Int} {m : Nat} (ho : Ord ks m) {g : Nat → Nat} (hg : PermOn ks.length g) : Ord ((List.range ks.length).map fun i => ((g i : Nat) : Int)) m := by
  have hl : ((List.range ks.length).map fun i => ((g i : Nat) : Int)).length = ks.length := by simp
  refine ⟨by rw [hl]; exact ho.len, ho.pos, ho.few, ?_, fun k hk => ?_⟩
  · rw [hl]
    exact perm_congr (fun x hx => (fn_map hx).symm) hg
  · obtain ⟨i, _, rfl⟩ := List.mem_map.mp hk
    (first | lia | omega)
section
variable {ks : List Int} {m : Nat}
theorem inv_one (ho : Ord ks m) {x : Nat} (hx : x < ks.length) : ks.idxOf ((x : Nat) : Int) < ks.length ∧ fn ks (ks.idxOf ((x : Nat) : Int)) = x := ho.prm.idx hx
theorem inv_two (ho : Ord ks m) {x : Nat} (hx : x < ks.length) : ks.idxOf ((fn ks x : Nat) : Int) = x := by
  obtain ⟨a, b⟩ := inv_one ho (ho.perm.1 x hx)
  exact ho.perm.2 _ _ a hx b
theorem inv_permL (ho : Ord ks m) : PermOn ks.length fun i => ks.idxOf ((i : Nat) : Int) :=
  ⟨fun i hi => (inv_one ho hi).1, fun i j hi hj e => by
    have e : ks.idxOf ((i : Nat) : Int) = ks.idxOf ((j : Nat) : Int) := e
    rw [← (inv_one ho hi).2, ← (inv_one ho hj).2, e]⟩
theorem ord_inv (ho : Ord ks m) : Ord (invL ks) m := ord_map ho (inv_permL ho)
theorem inv_len (ks : List Int) : (invL ks).length = ks.length := by simp [invL]
theorem invC (ho : Ord ks m) : num (invL ks).length (stp (invL ks).length (fn (invL ks))) = num ks.length (stp ks.length (fn ks)) := by
  rw [inv_len]
  exact (stp_congr fun x hx => fn_map hx).trans (inv_num ho.perm.1 (fun x hx => (inv_one ho hx).1) (fun x hx => inv_two ho hx) fun x hx => (inv_one ho hx).2)
theorem invF (ho : Ord ks m) : num (invL ks).length (stp (invL ks).length (fie (fn (invL ks)))) = num ks.length (stp ks.length (fie (fn ks))) := by
  rw [inv_len]
  have e : num ks.length (stp ks.length (fie (fn (invL ks)))) = num ks.length (stp ks.length (fie fun i => ks.idxOf ((i : Nat) : Int))) := stp_congr fun x hx => by
    unfold fie
    refine fn_map ?_
    have := ho.len
    have := flip_lt (m := m) (x := x) (by (first | lia | omega))
    (first | lia | omega)
  rw [e]
  exact inv_fie ho.len ho.perm.1 (fun x hx => (inv_one ho hx).1) (fun x hx => inv_two ho hx) fun x hx => (inv_one ho hx).2
theorem invP (ho : Ord ks m) : num (invL ks).length (pg (invL ks).length (fn (invL ks)) m) = num ks.length (pg ks.length (fn ks) m) := by
  rw [inv_len]
  exact (pg_congr fun x hx => fn_map hx).trans (inv_pg ho.perm.1 (fun x hx => (inv_one ho hx).1) (fun x hx => inv_two ho hx) fun x hx => (inv_one ho hx).2)

theorem rev_len (ks : List Int) : (revL ks).length = ks.length := by simp [revL]
theorem fn_rev (ho : Ord ks m) {x : Nat} (hx : x < ks.length) : fn (revL ks) x = rv ks.length (fn ks (rv ks.length x)) := by
  have hr : rv ks.length x = ks.length - 1 - x := by unfold rv; rw [if_pos hx]
  have hf := ho.perm.1 (ks.length - 1 - x) (by (first | lia | omega))
  have ha := ho.prm.at (i := ks.length - 1 - x) (by (first | lia | omega))
  show ((revL ks).getD x 0).toNat = _
  unfold revL
  rw [List.getD_eq_getElem?_getD, List.getElem?_map, List.getElem?_reverse hx, hr]
  rw [List.getD_eq_getElem?_getD, List.getElem?_eq_getElem (by (first | lia | omega)), Option.getD_some] at ha
  rw [List.getElem?_eq_getElem (by (first | lia | omega)), Option.map_some, Option.getD_some, ha]
  unfold rv
  rw [if_pos hf]
  (first | lia | omega)
theorem rev_perm (ho : Ord ks m) : PermOn ks.length fun x => rv ks.length (fn ks (rv ks.length x)) :=
  ⟨fun i hi => rv_lt (ho.perm.1 _ (rv_lt hi)), fun i j hi hj e => by
    have e1 := congrArg (rv ks.length) e
    simp only [rv_rv] at e1
    have e2 := congrArg (rv ks.length) (ho.perm.2 _ _ (rv_lt hi) (rv_lt hj) e1)
    simpa only [rv_rv] using e2⟩
theorem ord_rev (ho : Ord ks m) : Ord (revL ks) m := by
  refine ⟨by rw [rev_len]; exact ho.len, ho.pos, ho.few, ?_, fun k hk => ?_⟩
  · rw [rev_len]
    exact perm_congr (fun x hx => (fn_rev ho hx).symm) (rev_perm ho)
  · obtain ⟨i, hi, rfl⟩ := List.mem_map.mp hk
    obtain ⟨j, hj, rfl⟩ := List.getElem_of_mem (List.mem_reverse.mp hi)
    have ha := ho.prm.at (i := j) hj
    rw [List.getD_eq_getElem?_getD, List.getElem?_eq_getElem hj, Option.getD_some] at ha
    have := ho.perm.1 j hj
    (first | lia | omega)
theorem revC (ho : Ord ks m) : num (revL ks).length (stp (revL ks).length (fn (revL ks))) = num ks.length (stp ks.length (fn ks)) := by
  rw [rev_len]; exact rev_num ho.perm.1 fun x hx => fn_rev ho hx
theorem revF (ho : Ord ks m) : num (revL ks).length (stp (revL ks).length (fie (fn (revL ks)))) = num ks.length (stp ks.length (fie (fn ks))) := by
  rw [rev_len]; exact rev_fie ho.len ho.perm.1 fun x hx => fn_rev ho hx
theorem revP (ho : Ord ks m) : num (revL ks).length (pg (revL ks).length (fn (revL ks)) m) = num ks.length (pg ks.length (fn ks) m) := by
  rw [rev_len]; exact rev_pg ho.len ho.perm.1 fun x hx => fn_rev ho hx
end

section
open LCg LCt
section
variable {M : Model} {A : Around} {s : Shared} {E : Value → Shared → Prop} {env : Env}
theorem If_P {test : Expr} {body orelse : List Stmt} {pos : Pos} {Q : Flow → Shared → Prop}
    (h : wpP M A (isTrue test env (eval test env)) (fun b s₂ => if b then wpAny M A (execs body env) Q E s₂ else wpAny M A (execs orelse env) Q E s₂) E s) :
    wpP M A (exec (.If test body orelse pos) env) Q E s := by
  rw [exec_If]
  refine wpP_then (wpAny_standAt ?_)
  refine wpP_bind (wpP_mono h (fun b s₂ h₂ => wpP_any ?_) fun _ _ x => x)
  cases b <;> exact h₂
theorem isTrue_orP {x : Expr} {rest : List Expr} {pos : Pos} {whole : Sem Value} {Q : Bool → Shared → Prop}
    (h : wpP M A (isTrue x env (eval x env)) (fun c s' => if c then Q true s' else wpAny M A (isTrue (.BoolOp .Or rest pos) env whole) Q E s') E s) :
    wpP M A (isTrue (.BoolOp .Or (x :: rest) pos) env whole) Q E s := by
  show wpP M A (do
    match BoolOp.Or, ← isTrue x env (eval x env) with
    | .And, false => pure false
    | .Or, true => pure true
    | _, _ => allTrue .Or rest env) Q E s
  refine wpP_bind (wpP_mono h (fun c s' h' => wpP_any ?_) fun _ _ x => x)
  cases c with
  | false => exact h'
  | true => exact wpAny_pure h'
theorem isTrue_CompareP {l r : Expr} {op : CmpOp} {pos : Pos} {whole : Sem Value} {Q : Bool → Shared → Prop}
    (h : wpP M A (eval l env) (fun a s₁ => wpAny M A (eval r env) (fun b s₂ => wpAny M A (compareOp op a b) (fun c s₃ => wpAny M A (truthy c) Q E s₃) E s₂) E s₁) E s)
    (hm : behindInMarks op r = false := by with_unfolding_all rfl) : wpP M A (isTrue (.Compare l [op] [r] pos) env whole) Q E s := by
  rw [isTrue_Compare1, markedBehindIn_of_false hm]
  refine wpP_bind (wpP_mono h (fun a s₁ h₁ => wpP_any ?_) fun _ _ x => x)
  refine wpAny_bind (wpAny_holding (wpAny_mono h₁ (fun b s₂ h₂ => ?_) fun _ _ x => x))
  refine wpAny_bind (wpAny_standAt (wpAny_bind ?_))
  intro Γ p hΓ
  rw [Sem.wp_operate]
  exact Sem.wp_mono M Γ _ (fun c p₃ s₃ h₃ => wpAny_holding h₃) (fun _ _ _ h' => h') _ _ (h₂ Γ p hΓ)
theorem comp_P {e : Expr} {scope : Scope} {pos : Pos} {newAcc first : Sem Value} {use : Option (Value → Sem Unit)} {Q : Value → Shared → Prop}
    (h : wpP M A first (fun x s₁ => wpAny M A (comprehension e scope env pos newAcc false (pure x) use) Q E s₁) E s) : wpP M A (comprehension e scope env pos newAcc false first use) Q E s := by
  unfold comprehension at h ⊢
  exact wpP_bind (wpP_mono h (fun x s₁ h₁ => wpP_any h₁) fun _ _ x => x)
theorem callWith_argP {pos : Pos} {T : String} {e : Expr} {Q : Value → Shared → Prop}
    (h : wpP M A (eval e env) (fun v s₁ => wpAny M A (call (.type T) [v]) Q E s₁) E s)
    (he : starEach [e] env = [(false, eval e env)] := by rfl) :
    wpP M A (callWith pos (.type T) [] (backTo pos (starEach [e] env)) []) Q E s := by
  rw [he]
  show wpP M A (callWith pos (.type T) [] [(false, eval e env)] []) Q E s
  unfold callWith
  refine wpP_bind (wpP_holding ?_)
  unfold evalArgs
  show wpP M A (spliced [(false, eval e env)] >>= _) _ E s
  refine wpP_bind ?_
  rw [spliced]
  refine wpP_bind (wpP_mono h (fun v s₁ h₁ => ?_) fun _ _ x => x)
  simp only [Bool.false_eq_true, if_false]
  refine wpP_any ?_
  refine wpAny_bind (wpAny_pure (wpAny_bind (wpAny_holding ?_)))
  rw [spliced]
  refine wpAny_pure (wpAny_pure (wpP_any ?_))
  refine wpAny_holding ?_
  refine wpAny_bind (wpAny_pure (wpAny_bind (wpAny_pure (wpAny_pure (wpP_any ?_)))))
  refine wpAny_bind (wpAny_standAt ?_)
  simp only [List.any_cons, List.any_nil, Bool.or_false]
  refine wpAny_bind (wpAny_pure ?_)
  refine wpAny_bind (wpAny_mono h₁ (fun r s₂ hr => ?_) fun _ _ x => x)
  exact wpAny_bind (wpAny_holding (wpAny_point (wpAny_pure hr)))
end
section
variable {prog : Program} {w : World} {A : Around} {E : Value → Shared → Prop} {s : Shared} {h₀ : Heap} {L : Addr} {m : Str → Option Value} {env : Env}
theorem ListCompP_B {elt iter : Expr} {x : Str} {px : Pos} {scope : Scope} {cl : List (Str × Addr)} {pos : Pos} {Q : Value → Shared → Prop} (_F₀ : Fr h₀ L s.heap m)
    (hclos : closureFor scope env = pure cl) (hcell : ∀ y ∈ scope.names, y.2 ≠ .cell) (hkind : scope.kind = .function)
    (hnames : ∀ y ∈ scope.names, y.2 = .local → scope.names.lookup y.1 = some .local) (hx : scope.names.lookup x = some .local)
    (h : wpP (model prog w) A (eval iter env) (CompSrcB prog w A h₀ L m env elt x scope cl (fun s₂ => FinE h₀ L m s₂ Q)) E s)
    (hs : ∀ x, foldedSetIterable iter env x = pure x := by intro _; rfl) :
    wpP (model prog w) A (eval (.ListComp elt [⟨.Name x px, iter, [], 0⟩] scope pos) env) Q E s := by
  rw [eval_ListComp]
  refine comp_P (wpP_mono h (fun xv s₁ h₁ => ?_) fun _ _ e => e)
  refine wpAny_comprehension_free (use := none) rfl hs hclos hkind hnames (wpAny_pure ?_)
  obtain ⟨b, t, ks, news, rfl, hh, F, N, hk, hsz, R⟩ := h₁
  refine KBw.pyIter_bytes ?_
  refine block_U (bytes_W hh s₁.heap.objs.size b t hk) hsz (fun i h st => let ⟨o, ho, _⟩ := st; ⟨o, ho⟩) bytes_st hcell hkind hx ⟨_, Heap.get?_push_size _ rfl, rfl, rfl⟩ (fun b hb => ?_)
    (F.keeps fun _ _ e => Heap.get?_push_of_some _ e) (N.grown fun _ _ e => Heap.get?_push_of_some _ e) (Nat.ne_of_lt F.ns.lt) (next_is_new F) (fun p hp => Nat.ne_of_lt (Heap.lt_size (N p hp).1)) trivial (R _ ⟨_, rfl⟩) ?_
  · rw [List.mem_singleton.mp hb]
    show s₁.heap.objs.size < (s₁.heap.push _).objs.size
    rw [Heap.size_push]; exact Nat.lt_succ_self _
  · intro D C h tk m' ys news' F' N' o1 hn hC₀ hD₀ hCL hDL hCD offC fin
    refine ⟨m', hn, fun h'' hs'' => fin D h'' tk (F'.change hs'' hCL hC₀) (fun p hp => ?_) o1⟩
    refine ⟨hs''.extBut _ _ ?_ (N' p hp).1, (N' p hp).2⟩
    rcases List.mem_cons.mp hp with rfl | hp
    · exact Ne.symm hCD
    · exact offC p hp
end

end
section
open LCg LCt
section
variable {prog : Program} {w : World} {A : Around} {E : Value → Shared → Prop} {s : Shared} {h₀ : Heap} {L : Addr} {m : Str → Option Value} {env : Env}
def CompSrcR (prog : Program) (w : World) (A : Around) (h₀ : Heap) (L : Addr) (m : Str → Option Value) (env : Env) (ct elt : Expr) (x : Str) (scope : Scope) (cl : List (Str × Addr)) (Fin : Shared → List Value → List (Addr × Obj) → Prop) (xv : Value) (s₁ : Shared) : Prop :=
  ∃ (r : Addr) (b : Int) (t u v : Tok) (n : Nat) (q : Int → Bool) (news : List (Addr × Obj)), xv = .ref r ∧ A.handled = none ∧ Fr h₀ L s₁.heap m ∧ News h₀ L s₁.heap news ∧ IsRange s₁.heap r 0 b 1 t u v ∧ Builtin.Range.small 0 b 1 = true ∧ Builtin.Range.rangeSize 0 b 1 = ((n : Nat) : Int) ∧ n ≤ sizeLine ∧
    ∀ s₂ : Shared, (∃ h, s₂ = { s₁ with heap := h }) → TurnC prog w A h₀ L m env ct elt x scope cl s₂ (rangeKs 0 n) q news ∧ (∀ ys, IntsAre ys ((rangeKs 0 n).filter q) → Fin s₂ ys news)
theorem CompSrcR.intro {ct elt : Expr} {x : Str} {scope : Scope} {cl : List (Str × Addr)} {Fin : Shared → List Value → List (Addr × Obj) → Prop} {r : Addr} {b : Int} {t u v : Tok} {n : Nat} {news : List (Addr × Obj)} {s₁ : Shared} (q : Int → Bool)
    (hh : A.handled = none) (F : Fr h₀ L s₁.heap m) (N : News h₀ L s₁.heap news) (hr : IsRange s₁.heap r 0 b 1 t u v) (hsm : Builtin.Range.small 0 b 1 = true) (hn : Builtin.Range.rangeSize 0 b 1 = ((n : Nat) : Int)) (hsz : n ≤ sizeLine)
    (turn : ∀ gh, TurnC prog w A h₀ L m env ct elt x scope cl { s₁ with heap := gh } (rangeKs 0 n) q news)
    (fin : ∀ gh ys, IntsAre ys ((rangeKs 0 n).filter q) → Fin { s₁ with heap := gh } ys news) : CompSrcR prog w A h₀ L m env ct elt x scope cl Fin (.ref r) s₁ :=
  ⟨r, b, t, u, v, n, q, news, rfl, hh, F, N, hr, hsm, hn, hsz, fun _ ⟨gh, e⟩ => e ▸ ⟨turn gh, fin gh⟩⟩
theorem range_W (hh : A.handled = none) (I : Addr) (n : Nat) : Walks prog w A I [I] [I] (rangeKs 0 n).length (fun i v => ∃ k t, (rangeKs 0 n)[i]? = some k ∧ v = .int k t) (fun i h => IsRangeIter h I (0 + (i : Nat) * 1) ((n : Int) - (i : Nat)) 1) := by
  have W := range_walks (prog := prog) (w := w) (I := I) hh 0 n
  rw [rangeKs_length]
  exact { sub := W.sub, frame := W.frame, done := W.done, self := W.self,
          item := fun i s Q E hi st hQ => W.item i s Q E hi st fun v h' tk hP => hQ v h' tk (by obtain ⟨t, rfl⟩ := hP; exact ⟨_, t, by simp [rangeKs, hi], rfl⟩) }
theorem Assign_CR {ct elt iter : Expr} {x y : Str} {px py : Pos} {scope : Scope} {cl : List (Str × Addr)} {pos spos : Pos} {Q : Flow → Shared → Prop} (_F₀ : Fr h₀ L s.heap m) (hLe : env.locals = L)
    (hsw : swapsWith (.ListComp elt [⟨.Name x px, iter, [ct], 0⟩] scope pos) (some (.Name y py)) spos.line env = pure true)
    (hclos : closureFor scope env = pure cl) (hcell : ∀ n acc, cellsFrom n scope.names acc = (x, n) :: acc) (hkind : scope.kind = .function)
    (hnames : ∀ z ∈ scope.names, z.2 = .local → scope.names.lookup z.1 = some .local) (hx : scope.names.lookup x = some .cell)
    (hy : env.kindOf y = some .local) (hp : (env.scope.kind == .class || (env.scope.kind == .module && env.locals != env.globals)) = false)
    (h : wpAny (model prog w) A (eval iter env) (CompSrcR prog w A h₀ L m env ct elt x scope cl (fun s₂ => FinA h₀ L m s₂ y Q)) E s)
    (hs : ∀ x, foldedSetIterable iter env x = pure x := by intro _; rfl) :
    wpAny (model prog w) A (exec (.Assign [.Name y py] (.ListComp elt [⟨.Name x px, iter, [ct], 0⟩] scope pos) spos) env) Q E s := by
  subst hLe
  rw [exec_Assign_Name_used _ _ _ _ hsw]
  refine wpAny_bind (wpAny_standAt (wpAny_bind ?_))
  show wpAny _ A (do let _ ← comprehension (.ListComp elt [⟨.Name x px, iter, [ct], 0⟩] scope pos) scope env _ (newList []) false (eval iter env) (some (assign (.Name y py) env))) _ _ s
  refine wpAny_bind (wpAny_mono (wpAny_comprehension_free (use := some (assign (.Name y py) env)) (Q := fun _ s' => Q .next s') rfl hs hclos hkind hnames
    (wpAny_mono h (fun xv s₁ h₁ => ?_) fun _ _ e => e)) (fun _ s' hq => wpAny_pure (wpAny_pure hq)) fun _ _ e => e)
  obtain ⟨r, b, t, u, v, n, q, news, rfl, hh, F, N, hr, hsm, hn, hsz, R⟩ := h₁
  refine wpAny_pyIter_range hr hsm ?_
  obtain ⟨R1, R2⟩ := R { s₁ with heap := s₁.heap.push { cls := .type "range_iterator", data := .fields #[.int 0 0, .int (Builtin.Range.rangeSize 0 b 1) 0, .int 1 0] } } ⟨_, rfl⟩
  refine block_C (range_W hh s₁.heap.objs.size n) (fun _ _ _ h => h) (by rw [rangeKs_length]; exact hsz) (fun i h st => ⟨_, st⟩) (fun i h h' o st e e' k nn => range_st i h h' o _ st e e' k nn trivial) hcell hkind hx (by show IsRangeIter _ _ _ _ _; rw [hn]; simpa using Heap.get?_push_size _ rfl) (fun b hb => ?_)
    (F.keeps fun _ _ e => Heap.get?_push_of_some _ e) (N.grown fun _ _ e => Heap.get?_push_of_some _ e) (Nat.ne_of_lt F.ns.lt) (next_is_new F) (fun p hp => Nat.ne_of_lt (Heap.lt_size (N p hp).1)) R1 R2 ?_
  · rw [List.mem_singleton.mp hb]
    show s₁.heap.objs.size < (s₁.heap.push _).objs.size
    rw [Heap.size_push]; exact Nat.lt_succ_self _
  · intro D C h' tk m' ys F' N' o1 hn hC₀ hD₀ hCL hDL hCD offC fin
    show wpAny _ A (assign (.Name y py) env (.ref D)) _ _ _
    refine wpAny_assign_Name (wpAny_storeName_local hy F'.ns (fun h₂ hn₂ hs₂ => ?_) hp)
    have F₂ := F'.set hn₂ hs₂
    refine ⟨m', hn.sameBut hs₂ hCL, fun h'' hs'' => fin D h'' _ (F₂.change hs'' hCL hC₀) (fun p hp => ?_) o1⟩
    have z : h₂.get? p.1 = some p.2 := hs₂.extBut _ _ (N' p hp).2.1 (N' p hp).1
    refine ⟨hs''.extBut _ _ ?_ z, (N' p hp).2⟩
    rcases List.mem_cons.mp hp with rfl | hp
    · exact Ne.symm hCD
    · exact offC p hp

/-- a turn of a comprehension that keeps the values for which q says yes -/
def TurnV (prog : Program) (w : World) (A : Around) (h₀ : Heap) (L : Addr) (m : Str → Option Value) (env : Env) (ct elt : Expr) (x : Str) (scope : Scope) (cl : List (Str × Addr)) (s : Shared) (vs : List Value) (q : Value → Bool) (news : List (Addr × Obj)) : Prop :=
  ∀ v I oI C oC D m₂ ys h tk (E' : Value → Shared → Prop), v ∈ vs → LCg.NsObj oC m₂ → m₂ x = some v → Fr h₀ L h m → News h₀ L h ((I, oI) :: (C, oC) :: (D, LCg.lst ys) :: news) → LCg.Off3 I C D news → ((@Ne Nat I C) ∧ (@Ne Nat I D) ∧ (@Ne Nat C D)) → KPfMark →
    wpAny (model prog w) A (isTrue ct (compEnvC scope cl C env) (eval ct (compEnvC scope cl C env))) (fun b s' => b = q v ∧ if b = true then wpAny (model prog w) A (eval elt (compEnvC scope cl C env)) (LCg.CompEnd h₀ L m { s with heap := h, toks := tk } I oI C oC D (LCg.lst ys) (fun _ => True) (fun y news' => news' = news ∧ y = v)) E' s'
      else LCg.CompEnd h₀ L m { s with heap := h, toks := tk } I oI C oC D (LCg.lst ys) (fun _ => True) (fun _ news' => news' = news) Value.none s') E' { s with heap := h, toks := tk }
theorem filt_restV {ct elt : Expr} {x : Str} {scope : Scope} {cl : List (Str × Addr)} {S : List (Addr × Obj) → Prop} {Fin : List Value → List (Addr × Obj) → Prop} {news : List (Addr × Obj)} {vs : List Value} (q : Value → Bool)
    (hS : S news) (turn : TurnV prog w A h₀ L m env ct elt x scope cl s vs q news) (fin : Fin (vs.filter q) news) : LCt.CompRestT prog w A h₀ L m env ct elt x scope cl s S (fun i v => vs.toArray[i]? = some v) Fin vs.toArray.size 0 [] news := by
  have key : ∀ (j i : Nat) (ys : List Value), i + j = vs.length → ys = (vs.take i).filter q → LCt.CompRestT prog w A h₀ L m env ct elt x scope cl s S (fun i v => vs.toArray[i]? = some v) Fin j i ys news := by
    intro j
    induction j with
    | zero =>
      intro i ys hi hy
      have e : i = vs.length := by (first | lia | omega)
      subst e
      rw [List.take_length] at hy
      subst hy
      exact LCt.CompRestT.zero fin
    | succ j ih =>
      intro i ys hi hy
      refine LCt.CompRestT.succ ?_
      intro v I oI C oC D m₂ h tk E' hv hC hx F N off ne
      have hv' : vs[i]? = some v := by simpa using hv
      have hs : (vs.take (i + 1)).filter q = (vs.take i).filter q ++ if q v = true then [v] else [] := by
        rw [List.take_add_one, hv', List.filter_append]
        by_cases hq : q v = true <;> simp [hq]
      refine wpAny_mono (turn v I oI C oC D m₂ ys h tk E' (List.mem_of_getElem? hv') hC hx F N off ne True.intro) (fun b s₂ hq => ?_) fun _ _ e => e
      obtain ⟨hb, hq⟩ := hq
      cases b with
      | true =>
        simp only [if_true] at hq ⊢
        refine wpAny_mono hq (fun y s₃ hr => ?_) fun _ _ e => e
        obtain ⟨h', tk', nw, e, F', N', off', _, hn, hy'⟩ := hr
        rw [hn] at N' off'
        refine ⟨h', tk', news, e, F', N', off', hS, ?_⟩
        rw [hy']
        refine ih (i + 1) _ (by (first | lia | omega)) ?_
        rw [hs, if_pos hb.symm, hy]
      | false =>
        simp only [Bool.false_eq_true, if_false] at hq ⊢
        obtain ⟨h', tk', nw, e, F', N', off', _, hn⟩ := hq
        rw [hn] at N' off'
        refine ⟨h', tk', news, e, F', N', off', hS, ih (i + 1) _ (by (first | lia | omega)) ?_⟩
        rw [hs, if_neg (by rw [← hb]; exact Bool.false_ne_true), List.append_nil]
        exact hy
  rw [List.size_toArray]
  exact key vs.length 0 [] (by (first | lia | omega)) rfl
theorem src_filtV {ct elt : Expr} {x : Str} {scope : Scope} {cl : List (Str × Addr)} {Fin : Shared → List Value → List (Addr × Obj) → Prop} {ax : Addr} {vs : List Value} {kk : Nat} {news : List (Addr × Obj)} {s₁ : Shared} (q : Value → Bool)
    (hh : A.handled = none) (F : Fr h₀ L s₁.heap m) (N : News h₀ L s₁.heap news) (hm : (ax, PySem.W.listOf vs.toArray kk) ∈ news) (hsz : vs.length ≤ sizeLine)
    (turn : ∀ gh, TurnV prog w A h₀ L m env ct elt x scope cl { s₁ with heap := gh } vs q news)
    (fin : ∀ gh, Fin { s₁ with heap := gh } (vs.filter q) news) : CompSrcT prog w A h₀ L m env ct elt x scope cl Fin (.ref ax) s₁ :=
  CompSrcT.ledger hh F N hm (by rw [List.size_toArray]; exact hsz) fun g => filt_restV q (.inr ⟨_, hm, rfl, _, rfl⟩) (turn g) (fin g)
end

end
section
open LCg LCt
section
variable {prog : Program} {w : World} {A : Around} {E : Value → Shared → Prop} {R : Result → Shared → Prop} {s : Shared}
theorem turn2_0 (elt t1 i1 t2 i2 : Expr) (scope : Scope) (pos : Pos) (it acc : Value) (env : Env) :
    compTurn (.ListComp elt [⟨t1, i1, [], 0⟩, ⟨t2, i2, [], 0⟩] scope pos) 0 it acc env = (standAt i1.pos >>= fun _ => pyNext it >>= fun r => match r with
      | none => pure (.done .next)
      | some v => letOwnedTupleGo t1 it v >>= fun _ => assign t1 env v >>= fun _ =>
        eval i2 env >>= fun x => standAt i2.pos >>= fun _ => foldedSetIterable i2 env x >>= fun x => holding [x] (pyIter x) >>= fun j => runOwn (.compStart (.ListComp elt [⟨t1, i1, [], 0⟩, ⟨t2, i2, [], 0⟩] scope pos) 1 j acc env) env >>= fun _ =>
          again (.compLoop (.ListComp elt [⟨t1, i1, [], 0⟩, ⟨t2, i2, [], 0⟩] scope pos) 0 it acc env)) := by rfl
theorem turn2_1 (elt t1 i1 t2 i2 : Expr) (scope : Scope) (pos : Pos) (it acc : Value) (env : Env) :
    compTurn (.ListComp elt [⟨t1, i1, [], 0⟩, ⟨t2, i2, [], 0⟩] scope pos) 1 it acc env = (standAt i2.pos >>= fun _ => pyNext it >>= fun r => match r with
      | none => pure (.done .next)
      | some v => letOwnedTupleGo t2 it v >>= fun _ => assign t2 env v >>= fun _ =>
        (eval elt env >>= fun x => call (.builtin "list.append") [acc, x] >>= fun _ => pure ()) >>= fun _ =>
          again (.compLoop (.ListComp elt [⟨t1, i1, [], 0⟩, ⟨t2, i2, [], 0⟩] scope pos) 1 it acc env)) := by rfl
theorem loop2_1 {elt t1 i1 t2 i2 : Expr} {scope : Scope} {pos : Pos} {it acc : Value} {env : Env} (I : Nat → Shared → Prop)
    (turn : ∀ n s, I n s → wpAny (model prog w) A (pyNext it) (fun r s₁ => match r with
      | none => R (.ok .next) s₁
      | some v => wpAny (model prog w) A (assign t2 env v) (fun _ s₂ => wpAny (model prog w) A (eval elt env) (fun x s₃ =>
          wpAny (model prog w) A (call (.builtin "list.append") [acc, x]) (fun _ s₄ => ∃ m, m < n ∧ I m s₄) (notedBy (model prog w) A env fun e s' => R (.error e) s') s₃)
          (notedBy (model prog w) A env fun e s' => R (.error e) s') s₂) (notedBy (model prog w) A env fun e s' => R (.error e) s') s₁) (notedBy (model prog w) A env fun e s' => R (.error e) s') s)
    (n : Nat) (h : I n s) (ht : ∀ v, letOwnedTupleGo t2 it v = pure () := by intro _; rfl) :
    codeAny (model prog w) A (.compLoop (.ListComp elt [⟨t1, i1, [], 0⟩, ⟨t2, i2, [], 0⟩] scope pos) 1 it acc env) R s := by
  refine codeAny_loop rfl I (fun n s hI => ?_) n h
  show wpAny _ _ ((compTurn (.ListComp elt [⟨t1, i1, [], 0⟩, ⟨t2, i2, [], 0⟩] scope pos) 1 it acc env).onRaise (fun x => do noteFrame x env; theTreesLotGoes x)) _ _ s
  refine wpAny_noted ?_
  rw [turn2_1]
  refine wpAny_bind (wpAny_standAt (wpAny_bind (wpAny_mono (turn n s hI) (fun r s₁ h₁ => ?_) fun _ _ h' => h')))
  cases r with
  | none => exact wpAny_pure h₁
  | some v =>
    refine wpAny_bind (wpAny_of_eq (ht v) ?_)
    exact wpAny_bind (wpAny_mono h₁ (fun _ s₂ h₂ => wpAny_bind (wpAny_bind (wpAny_mono h₂ (fun x s₃ h₃ => wpAny_bind (wpAny_mono h₃
      (fun _ s₄ h₄ => wpAny_pure (wpAny_pure ⟨rfl, h₄⟩)) fun _ _ h' => h')) fun _ _ h' => h'))) fun _ _ h' => h')
theorem loop2_0 {elt t1 i1 t2 i2 : Expr} {scope : Scope} {pos : Pos} {it acc : Value} {env : Env} (I : Nat → Shared → Prop)
    (turn : ∀ n s, I n s → wpAny (model prog w) A (pyNext it) (fun r s₁ => match r with
      | none => R (.ok .next) s₁
      | some v => wpAny (model prog w) A (assign t1 env v) (fun _ s₂ => wpAny (model prog w) A (eval i2 env) (fun x s₃ =>
          wpAny (model prog w) A (pyIter x) (fun j s₄ => codeAny (model prog w) A (.compStart (.ListComp elt [⟨t1, i1, [], 0⟩, ⟨t2, i2, [], 0⟩] scope pos) 1 j acc env) (fun r s₅ => match r with | .ok _ => ∃ m, m < n ∧ I m s₅ | .error _ => False) s₄)
            (notedBy (model prog w) A env fun e s' => R (.error e) s') s₃)
          (notedBy (model prog w) A env fun e s' => R (.error e) s') s₂) (notedBy (model prog w) A env fun e s' => R (.error e) s') s₁) (notedBy (model prog w) A env fun e s' => R (.error e) s') s)
    (n : Nat) (h : I n s) (ht : ∀ v, letOwnedTupleGo t1 it v = pure () := by intro _; rfl) (hs : ∀ x, foldedSetIterable i2 env x = pure x := by intro _; rfl) :
    codeAny (model prog w) A (.compLoop (.ListComp elt [⟨t1, i1, [], 0⟩, ⟨t2, i2, [], 0⟩] scope pos) 0 it acc env) R s := by
  refine codeAny_loop rfl I (fun n s hI => ?_) n h
  show wpAny _ _ ((compTurn (.ListComp elt [⟨t1, i1, [], 0⟩, ⟨t2, i2, [], 0⟩] scope pos) 0 it acc env).onRaise (fun x => do noteFrame x env; theTreesLotGoes x)) _ _ s
  refine wpAny_noted ?_
  rw [turn2_0]
  refine wpAny_bind (wpAny_standAt (wpAny_bind (wpAny_mono (turn n s hI) (fun r s₁ h₁ => ?_) fun _ _ h' => h')))
  cases r with
  | none => exact wpAny_pure h₁
  | some v =>
    refine wpAny_bind (wpAny_of_eq (ht v) ?_)
    refine wpAny_bind (wpAny_mono h₁ (fun _ s₂ h₂ => ?_) fun _ _ h' => h')
    refine wpAny_bind (wpAny_mono h₂ (fun x s₃ h₃ => ?_) fun _ _ h' => h')
    refine wpAny_bind (wpAny_standAt ?_)
    refine wpAny_bind (wpAny_of_eq (hs x) ?_)
    refine wpAny_bind (wpAny_holding (wpAny_mono h₃ (fun j s₄ h₄ => ?_) fun _ _ h' => h'))
    refine wpAny_bind (wpAny_runOwn (codeAny_mono h₄ fun r s₅ hr => ?_))
    cases r with
    | ok f => exact wpAny_pure ⟨rfl, hr⟩
    | error e => exact hr.elim
theorem start2_1 {elt t1 i1 t2 i2 : Expr} {scope : Scope} {pos : Pos} {it acc : Value} {env : Env}
    (h0 : codeAny (model prog w) A (.compLoop (.ListComp elt [⟨t1, i1, [], 0⟩, ⟨t2, i2, [], 0⟩] scope pos) 1 it acc env) R s)
    (h : wpAny (model prog w) A (pyIter it) (fun it' s' => codeAny (model prog w) A (.compLoop (.ListComp elt [⟨t1, i1, [], 0⟩, ⟨t2, i2, [], 0⟩] scope pos) 1 it' acc env) R s')
      (notedBy (model prog w) A env fun x s' => R (.error x) s') s) :
    codeAny (model prog w) A (.compStart (.ListComp elt [⟨t1, i1, [], 0⟩, ⟨t2, i2, [], 0⟩] scope pos) 1 it acc env) R s := by
  refine codeAny_of_tree ?_
  show wpAny _ _ ((compStart (.ListComp elt [⟨t1, i1, [], 0⟩, ⟨t2, i2, [], 0⟩] scope pos) 1 it acc env).onRaise (fun x => do noteFrame x env; standAt theWindowsPlace)) _ _ s
  refine wpAny_notedAt ?_
  unfold compStart
  show wpAny _ _ (ask >>= _) _ _ s
  refine wpAny_bind (wpAny_askSetting (wpAny_ite ?_))
  split
  · first
      | exact wpAny_bind (wpAny_pure (wpAny_pure (And.intro rfl h0)))
      | exact wpAny_pure (And.intro rfl h0)
  · refine wpAny_bind (wpAny_rule ?_)
    show wpAny _ _ (standAt i2.pos >>= _) _ _ s
    exact wpAny_bind (wpAny_standAt (wpAny_bind (wpAny_mono h (fun it' s' h' => wpAny_pure (And.intro rfl h')) fun _ _ x => x)))
end

end
section
open LCg LCt
section
variable {prog : Program} {w : World} {A : Around} {E : Value → Shared → Prop} {s : Shared} {h₀ : Heap} {L : Addr} {m : Str → Option Value} {env : Env}
/-- a comprehension under way: its names at C, its list at D -/
structure CS (h₀ : Heap) (L : Addr) (m : Str → Option Value) (C D : Addr) (news : List (Addr × Obj)) (h : Heap) (m' : Str → Option Value) (ys : List Value) : Prop where
  F : Fr h₀ L h m
  n : h.Ns C m'
  N : News h₀ L h ((D, lst ys) :: news)
/-- what keeps them apart -/
structure CA (h₀ : Heap) (L C D : Addr) (news : List (Addr × Obj)) : Prop where
  C0 : h₀.get? C = none
  D0 : h₀.get? D = none
  CL : C ≠ L
  DL : D ≠ L
  CD : C ≠ D
  oC : ∀ p ∈ news, p.1 ≠ C
  oD : ∀ p ∈ news, p.1 ≠ D
theorem CS.but {C D b : Addr} {news : List (Addr × Obj)} {h h' : Heap} {m' : Str → Option Value} {ys : List Value} (x : CS h₀ L m C D news h m' ys) (hs : Heap.ExtBut b h h') (b0 : h₀.get? b = none) (bL : b ≠ L) (bC : b ≠ C) (bD : b ≠ D) (bn : ∀ p ∈ news, p.1 ≠ b) :
    CS h₀ L m C D news h' m' ys := by
  refine ⟨⟨x.F.ns.at' fun o e => hs _ o (Ne.symm bL) e, fun a o e => hs a o (fun q => by rw [q, b0] at e; cases e) (x.F.keep a o e), x.F.above⟩, x.n.extBut hs (Ne.symm bC), fun p hp => ?_⟩
  refine ⟨hs _ _ ?_ (x.N p hp).1, (x.N p hp).2⟩
  rcases List.mem_cons.mp hp with rfl | hp
  · exact Ne.symm bD
  · exact bn p hp
theorem CS.names {C D : Addr} {news : List (Addr × Obj)} {h h' : Heap} {m' m'' : Str → Option Value} {ys : List Value} (x : CS h₀ L m C D news h m' ys) (a : CA h₀ L C D news) (hn : h'.Ns C m'') (hs : Heap.SameBut C h h') : CS h₀ L m C D news h' m'' ys := by
  refine ⟨x.F.change hs a.CL a.C0, hn, fun p hp => ⟨hs.extBut _ _ ?_ (x.N p hp).1, (x.N p hp).2⟩⟩
  rcases List.mem_cons.mp hp with rfl | hp
  · exact Ne.symm a.CD
  · exact a.oC p hp
theorem CS.push {C D : Addr} {news : List (Addr × Obj)} {h h' : Heap} {m' : Str → Option Value} {ys ys' : List Value} (x : CS h₀ L m C D news h m' ys) (a : CA h₀ L C D news) (hs : Heap.SameBut D h h') (hD : h'.get? D = some (lst ys')) : CS h₀ L m C D news h' m' ys' := by
  refine ⟨x.F.change hs a.DL a.D0, x.n.sameBut hs a.CD, fun p hp => ?_⟩
  rcases List.mem_cons.mp hp with rfl | hp
  · exact ⟨hD, a.DL, a.D0⟩
  · exact ⟨hs.extBut _ _ (a.oD p hp) (x.N p (List.mem_cons_of_mem _ hp)).1, (x.N p (List.mem_cons_of_mem _ hp)).2⟩
theorem CS.fresh {C D : Addr} {news : List (Addr × Obj)} {h : Heap} {m' : Str → Option Value} {ys : List Value} (x : CS h₀ L m C D news h m' ys) : h₀.get? h.objs.size = none ∧ h.objs.size ≠ L ∧ h.objs.size ≠ C ∧ h.objs.size ≠ D ∧ ∀ p ∈ news, p.1 ≠ h.objs.size := by
  refine ⟨next_is_new x.F, fun e => absurd x.F.ns.lt (by rw [← e]; exact Nat.lt_irrefl _), fun e => absurd x.n.lt (by rw [← e]; exact Nat.lt_irrefl _), fun e => absurd (Heap.lt_size (x.N _ List.mem_cons_self).1) (by rw [← e]; exact Nat.lt_irrefl _), fun p hp e => absurd (Heap.lt_size (x.N p (List.mem_cons_of_mem _ hp)).1) (by rw [e]; exact Nat.lt_irrefl _)⟩
theorem iter_but {h h' : Heap} {I ax b : Addr} {i : Nat} (x : h.IsListIter I ax i) (hs : Heap.ExtBut b h h') (hb : I ≠ b) : h'.IsListIter I ax i := by
  obtain ⟨o, e, r⟩ := x
  exact ⟨o, hs _ _ hb e, r⟩
theorem ints_at {vs : List Value} {ns : List Int} (h : IntsAre vs ns) : ∀ {i : Nat} {v : Value}, vs[i]? = some v → ∃ y t, v = .int y t ∧ ns[i]? = some y := fun {i v} hv => by
  obtain ⟨k, t, e, hk⟩ := IntsAre.at h i v (by simpa using hv)
  exact ⟨k, t, e, hk⟩
variable {x1 x2 : Str} {p1 p2 p3 : Pos} {iter1 iter2 : Expr} {scope : Scope} {cl : List (Str × Addr)} {pos : Pos} {C D I ax c : Addr} {news : List (Addr × Obj)}
theorem inner2 {m' : Str → Option Value} {ys ws : List Value} {l r : List Int} {k i : Nat} {R : Result → Shared → Prop} (hh : A.handled = none) (hkind : scope.kind = .function) (hx2 : scope.names.lookup x2 = some .local) (hd2 : (x2 == ("__debug__" : Str)) = false)
    (a : CA h₀ L C D news) (hIC : I ≠ C) (hID : I ≠ D) (x : CS h₀ L m C D news s.heap m' ys) (hm : (c, PySem.W.listOf ws.toArray k) ∈ news) (hr : IntsAre ws r) (hl : IntsAre ys l) (hz : l.length + r.length ≤ 1000) (hit : s.heap.IsListIter I ax i)
    (done : ∀ h' tk m'' ys', CS h₀ L m C D news h' m'' ys' → IntsAre ys' (l ++ r) → h'.IsListIter I ax i → R (.ok .next) { s with heap := h', toks := tk }) :
    wpAny (model prog w) A (pyIter (.ref c)) (fun j s₄ => codeAny (model prog w) A (.compStart (.ListComp (.Name x2 p3) [⟨.Name x1 p1, iter1, [], 0⟩, ⟨.Name x2 p2, iter2, [], 0⟩] scope pos) 1 j (.ref D) (compEnvC scope cl C env)) R s₄) E s := by
  refine wpAny_pyIter_list (News.isList x.N (List.mem_cons_of_mem _ hm)) ?_
  obtain ⟨j0, jL, jC, jD, jn⟩ := x.fresh
  have hIJ : I ≠ s.heap.objs.size := by obtain ⟨o, e, _⟩ := hit; exact Nat.ne_of_lt (Heap.lt_size e)
  have xp : CS h₀ L m C D news (s.heap.push { cls := .type "list_iterator", data := .fields #[.ref c, .int 0 0] }) m' ys := x.but (fun a o _ e => Heap.get?_push_of_some _ e) j0 jL jC jD jn
  have hitp : (s.heap.push { cls := .type "list_iterator", data := .fields #[.ref c, .int 0 0] }).IsListIter I ax i := iter_but hit (fun a o _ e => Heap.get?_push_of_some _ e) hIJ
  have hJ : (s.heap.push { cls := .type "list_iterator", data := .fields #[.ref c, .int 0 0] }).IsListIter s.heap.objs.size c 0 := ⟨_, Heap.get?_push_size _ rfl, rfl, rfl⟩
  generalize hJe : s.heap.objs.size = J at j0 jL jC jD jn hIJ hJ
  generalize s.heap.push { cls := .type "list_iterator", data := .fields #[.ref c, .int 0 0] } = hp at xp hitp hJ ⊢
  have loop : codeAny (model prog w) A (.compLoop (.ListComp (.Name x2 p3) [⟨.Name x1 p1, iter1, [], 0⟩, ⟨.Name x2 p2, iter2, [], 0⟩] scope pos) 1 (.ref J) (.ref D) (compEnvC scope cl C env)) R { s with heap := hp } := by
    refine loop2_1 (fun n s' => ∃ h tk m1 ys1 j, s' = { s with heap := h, toks := tk } ∧ CS h₀ L m C D news h m1 ys1 ∧ h.IsListIter J c j ∧ h.IsListIter I ax i ∧ IntsAre ys1 (l ++ r.take j) ∧ j ≤ r.length ∧ n = r.length + 1 - j) ?_ (r.length + 1) ⟨hp, s.toks, m', ys, 0, rfl, xp, hJ, hitp, by simpa using hl, Nat.zero_le _, rfl⟩
    rintro n s' ⟨h, tk, m1, ys1, j, rfl, y, hJ, hI, hy, hj, rfl⟩
    have hlc : h.IsList c ws.toArray := News.isList y.N (List.mem_cons_of_mem _ hm)
    have hwl := hr.length
    cases hv : ws[j]? with
    | none =>
      have e : j = r.length := by have := List.getElem?_eq_none_iff.mp hv; (first | lia | omega)
      subst e
      refine wpAny_pyNext_list_end hh hJ hlc (by simpa using hv) fun h₁ hs₁ => ?_
      rw [List.take_length] at hy
      exact done h₁ tk m1 ys1 (y.but hs₁ j0 jL jC jD jn) hy (iter_but hI hs₁ hIJ)
    | some v =>
      obtain ⟨q, t, rfl, hq⟩ := ints_at hr hv
      have hjl : j < r.length := (List.getElem?_eq_some_iff.mp hq).1
      refine wpAny_pyNext_list_item hJ hlc (by simpa using hv) fun h₁ hJ₁ hs₁ => ?_
      have y₁ := y.but hs₁.extBut j0 jL jC jD jn
      have hI₁ := iter_but hI hs₁.extBut hIJ
      refine wpAny_assign_Name (wpAny_storeName_local (env := compEnvC scope cl C env) (lookup_relabel_local hx2) y₁.n (fun h₂ hn₂ hs₂ => ?_) (by simp [compEnvC, relabel, hkind]))
      have y₂ := y₁.names a hn₂ hs₂
      refine wpAny_Name (wpAny_loadName_local (v := .int q t) (env := compEnvC scope cl C env) (by simp [compEnvC, relabel, hkind]) (lookup_relabel_local hx2) y₂.n (if_pos rfl) ?_) hd2
      have hly := hy.length
      refine append_at (hsz := by rw [PySem.sizeLine_eq, List.size_toArray]; simp only [List.length_append, List.length_take] at hly; (first | lia | omega)) (y₂.N _ List.mem_cons_self).1 fun h₃ hs₃ hD₃ => ?_
      refine ⟨r.length + 1 - (j + 1), by (first | lia | omega), h₃, _, _, ys1 ++ [.int q t], j + 1, rfl, y₂.push a hs₃ (hD₃.trans (congrArg some (lst_snoc ys1 _))), ?_, ?_, ?_, hjl, rfl⟩
      · exact iter_but (iter_but hJ₁ hs₂.extBut jC) hs₃.extBut jD
      · exact iter_but (iter_but hI₁ hs₂.extBut hIC) hs₃.extBut hID
      · rw [List.take_add_one, hq, ← List.append_assoc]
        exact hy.append (.cons q t .nil)
  refine start2_1 loop (wpAny_pyIter_listiter hJ loop)

theorem block_D {vs : List Value} {rs : List (List Int)} {kk : Nat} {RR : Value → Addr → Result → Shared → Prop} (hh : A.handled = none) (hkind : scope.kind = .function) (hcell : ∀ y ∈ scope.names, y.2 ≠ .cell)
    (hx1 : scope.names.lookup x1 = some .local) (hx2 : scope.names.lookup x2 = some .local) (hd1 : (x1 == ("__debug__" : Str)) = false) (hd2 : (x2 == ("__debug__" : Str)) = false)
    (F : Fr h₀ L s.heap m) (N : News h₀ L s.heap news) (hm : (ax, PySem.W.listOf vs.toArray kk) ∈ news) (hlen : vs.length = rs.length) (hz : rs.flatten.length ≤ 1000)
    (hin : ∀ (i : Nat) v, vs[i]? = some v → ∃ (c : Addr) (ws : List Value) (k : Nat) (r : List Int), v = .ref c ∧ (c, PySem.W.listOf ws.toArray k) ∈ news ∧ IntsAre ws r ∧ rs[i]? = some r)
    (hit : s.heap.IsListIter I ax 0) (hIL : I ≠ L) (hI0 : h₀.get? I = none) (offI : ∀ p ∈ news, p.1 ≠ I)
    (hRR : ∀ D C h tk m' ys, Fr h₀ L h m → News h₀ L h ((D, lst ys) :: news) → Off1 D news → h.Ns C m' → h₀.get? C = none → h₀.get? D = none → C ≠ L → D ≠ L → C ≠ D → (∀ p ∈ news, p.1 ≠ C) → IntsAre ys rs.flatten → RR (.ref D) C (.ok .next) { s with heap := h, toks := tk }) :
    wpAny (model prog w) A (newList []) (fun acc s₃ => wpAny (model prog w) A (newFunctionEnv scope env.globals cl [] env.qual none .none (some env)) (fun cenv s₄ =>
      codeAny (model prog w) A (.compStart (.ListComp (.Name x2 p3) [⟨.Name x1 p1, iter1, [], 0⟩, ⟨.Name x2 p2, .Name x1 pos', [], 0⟩] scope pos) 0 (.ref I) acc { cenv with scope := relabel scope env }) (RR acc cenv.locals) s₄) E s₃) E s := by
  refine wpAny_newObj_type (wpAny_newFunctionEnv hcell (by intro y hy; simp at hy) (fun h₁ hns₁ hsb₁ => ?_) hkind)
  dsimp only at hns₁ hsb₁ ⊢
  generalize hH2 : s.heap.push { cls := .type "list", dict := none, data := .seq ([] : List Value).toArray } = H2 at hns₁ hsb₁ ⊢
  have hC : H2.objs.size = s.heap.objs.size + 1 := by rw [← hH2, Heap.size_push]
  have hDC : s.heap.objs.size ≠ H2.objs.size := by rw [hC]; exact Nat.ne_of_lt (Nat.lt_succ_self _)
  have below : ∀ b, b < s.heap.objs.size → b ≠ H2.objs.size ∧ b ≠ s.heap.objs.size := fun b hb => ⟨by rw [hC]; exact Nat.ne_of_lt (Nat.lt_succ_of_lt hb), Nat.ne_of_lt hb⟩
  have old : ∀ b o, s.heap.get? b = some o → h₁.get? b = some o := fun b o e => hsb₁.extBut b o (below b (Heap.lt_size e)).1 (Heap.get?_push_of_some _ (hH2 ▸ Heap.get?_push_of_some _ e))
  have hacc : h₁.get? s.heap.objs.size = some (lst []) := hsb₁.extBut _ _ hDC (Heap.get?_push_of_some _ (hH2 ▸ Heap.get?_push_size _ rfl))
  have fresh : ∀ a, s.heap.objs.size ≤ a → s.heap.get? a = none := fun a ha => by
    cases e : s.heap.get? a with
    | none => rfl
    | some o' => exact absurd (Heap.lt_size e) (Nat.not_lt.mpr ha)
  have fresh₀ : ∀ a, s.heap.objs.size ≤ a → h₀.get? a = none := fun a ha => by
    cases e : h₀.get? a with
    | none => rfl
    | some o' => have := F.keep a o' e; rw [fresh a ha] at this; cases this
  have hLlt : L < s.heap.objs.size := F.ns.lt
  have hIlt : I < s.heap.objs.size := by obtain ⟨o, e, _⟩ := hit; exact Heap.lt_size e
  have a : CA h₀ L H2.objs.size s.heap.objs.size news := ⟨fresh₀ _ (by rw [hC]; exact Nat.le_succ _), fresh₀ _ (Nat.le_refl _), Ne.symm (below L hLlt).1, Ne.symm (below L hLlt).2, Ne.symm hDC, fun p hp => (below _ (Heap.lt_size (N p hp).1)).1, fun p hp => (below _ (Heap.lt_size (N p hp).1)).2⟩
  have hIC := (below I hIlt).1
  have hID := (below I hIlt).2
  have x₁ : CS h₀ L m H2.objs.size s.heap.objs.size news h₁ _ [] := ⟨F.keeps old, hns₁, fun p hp => by
    rcases List.mem_cons.mp hp with rfl | hp
    · exact ⟨hacc, a.DL, a.D0⟩
    · exact ⟨old _ _ (N p hp).1, (N p hp).2⟩⟩
  have hit₁ : h₁.IsListIter I ax 0 := by obtain ⟨o, e, r⟩ := hit; exact ⟨o, old _ _ e, r⟩
  generalize H2.objs.size = C at hns₁ hsb₁ hC hDC below a hIC x₁ ⊢
  generalize s.heap.objs.size = D at *
  have loop : codeAny (model prog w) A (.compLoop (.ListComp (.Name x2 p3) [⟨.Name x1 p1, iter1, [], 0⟩, ⟨.Name x2 p2, .Name x1 pos', [], 0⟩] scope pos) 0 (.ref I) (.ref D) (compEnvC scope cl C env))
      (RR (.ref D) C) { s with heap := h₁, toks := s.toks + ([] : List (Str × Value)).length } := by
    refine loop2_0 (fun n s' => ∃ h tk m1 ys1 i, s' = { s with heap := h, toks := tk } ∧ CS h₀ L m C D news h m1 ys1 ∧ h.IsListIter I ax i ∧ IntsAre ys1 (rs.take i).flatten ∧ i ≤ rs.length ∧ n = rs.length + 1 - i) ?_ (rs.length + 1) ⟨h₁, _, _, [], 0, rfl, x₁, hit₁, .nil, Nat.zero_le _, rfl⟩
    rintro n s' ⟨h, tk, m1, ys1, i, rfl, y, hI, hy, hi, rfl⟩
    have hlc : h.IsList ax vs.toArray := News.isList y.N (List.mem_cons_of_mem _ hm)
    cases hv : vs[i]? with
    | none =>
      have e : i = rs.length := by have := List.getElem?_eq_none_iff.mp hv; (first | lia | omega)
      subst e
      refine wpAny_pyNext_list_end hh hI hlc (by simpa using hv) fun h₁ hs₁ => ?_
      rw [List.take_length] at hy
      have y₁ := y.but hs₁ hI0 hIL hIC hID offI
      exact hRR D C h₁ tk m1 ys1 y₁.F y₁.N (Mine.Off1.of a.oD) y₁.n a.C0 a.D0 a.CL a.DL a.CD a.oC hy
    | some v =>
      obtain ⟨c, ws, k, r, rfl, hmc, hr, hri⟩ := hin i v hv
      have hil : i < rs.length := (List.getElem?_eq_some_iff.mp hri).1
      refine wpAny_pyNext_list_item hI hlc (by simpa using hv) fun h₁ hI₁ hs₁ => ?_
      have y₁ := y.but hs₁.extBut hI0 hIL hIC hID offI
      refine wpAny_assign_Name (wpAny_storeName_local (env := compEnvC scope cl C env) (lookup_relabel_local hx1) y₁.n (fun h₂ hn₂ hs₂ => ?_) (by simp [compEnvC, relabel, hkind]))
      have y₂ := y₁.names a hn₂ hs₂
      have hI₂ := iter_but hI₁ hs₂.extBut hIC
      refine wpAny_Name (wpAny_loadName_local (v := .ref c) (env := compEnvC scope cl C env) (by simp [compEnvC, relabel, hkind]) (lookup_relabel_local hx1) y₂.n (if_pos rfl) ?_) hd1
      have hfl : (rs.take (i + 1)).flatten = (rs.take i).flatten ++ r := by rw [List.take_add_one, hri]; simp
      have hz' : (rs.take i).flatten.length + r.length ≤ 1000 := by
        have e : rs.flatten = (rs.take (i + 1)).flatten ++ (rs.drop (i + 1)).flatten := by rw [← List.flatten_append, List.take_append_drop]
        rw [e, hfl] at hz
        simp only [List.length_append] at hz
        (first | lia | omega)
      refine inner2 hh hkind hx2 hd2 a hIC hID y₂ hmc hr hy hz' hI₂ fun h' tk' m'' ys' z hz hI₃ => ?_
      exact ⟨rs.length + 1 - (i + 1), by (first | lia | omega), h', tk', m'', ys', i + 1, rfl, z, hI₃, by rw [hfl]; exact hz, hil, rfl⟩
  exact codeAny_compStart_list loop (wpAny_pyIter_listiter hit₁ loop)

/-- all of the inner lists, one behind the other -/
def CompSrcD (A : Around) (h₀ : Heap) (L : Addr) (m : Str → Option Value) (Fin : Shared → List Value → List (Addr × Obj) → Prop) (xv : Value) (s₁ : Shared) : Prop :=
  ∃ (ax : Addr) (vs : List Value) (kk : Nat) (rs : List (List Int)) (news : List (Addr × Obj)), xv = .ref ax ∧ A.handled = none ∧ Fr h₀ L s₁.heap m ∧ News h₀ L s₁.heap news ∧ (ax, PySem.W.listOf vs.toArray kk) ∈ news ∧ vs.length = rs.length ∧ rs.flatten.length ≤ 1000 ∧
    (∀ (i : Nat) v, vs[i]? = some v → ∃ (c : Addr) (ws : List Value) (k : Nat) (r : List Int), v = .ref c ∧ (c, PySem.W.listOf ws.toArray k) ∈ news ∧ IntsAre ws r ∧ rs[i]? = some r) ∧
    ∀ s₂ : Shared, (∃ h, s₂ = { s₁ with heap := h }) → ∀ ys, IntsAre ys rs.flatten → Fin s₂ ys news
theorem ListComp_D {Q : Value → Shared → Prop} {pos' : Pos} (_F₀ : Fr h₀ L s.heap m) (hclos : closureFor scope env = pure cl) (hcell : ∀ y ∈ scope.names, y.2 ≠ .cell) (hkind : scope.kind = .function)
    (hnames : ∀ y ∈ scope.names, y.2 = .local → scope.names.lookup y.1 = some .local) (hx1 : scope.names.lookup x1 = some .local) (hx2 : scope.names.lookup x2 = some .local) (hd1 : (x1 == ("__debug__" : Str)) = false) (hd2 : (x2 == ("__debug__" : Str)) = false)
    (h : wpAny (model prog w) A (eval iter1 env) (CompSrcD A h₀ L m (fun s₂ => FinE h₀ L m s₂ Q)) E s)
    (hs : ∀ x, foldedSetIterable iter1 env x = pure x := by intro _; rfl) :
    wpAny (model prog w) A (eval (.ListComp (.Name x2 p3) [⟨.Name x1 p1, iter1, [], 0⟩, ⟨.Name x2 p2, .Name x1 pos', [], 0⟩] scope pos) env) Q E s := by
  rw [eval_ListComp]
  refine wpAny_comprehension_free (use := none) rfl hs hclos hkind hnames (wpAny_mono h (fun xv s₁ h₁ => ?_) fun _ _ e => e)
  obtain ⟨ax, vs, kk, rs, news, rfl, hh, F, N, hm, hlen, hz, hin, R⟩ := h₁
  refine wpAny_pyIter_list (News.isList N hm) ?_
  have R' := R { s₁ with heap := s₁.heap.push { cls := .type "list_iterator", data := .fields #[.ref ax, .int 0 0] } } ⟨_, rfl⟩
  refine block_D hh hkind hcell hx1 hx2 hd1 hd2 (F.keeps fun _ _ e => Heap.get?_push_of_some _ e) (N.grown fun _ _ e => Heap.get?_push_of_some _ e) hm hlen hz hin ⟨_, Heap.get?_push_size _ rfl, rfl, rfl⟩ (fun e => absurd F.ns.lt (by rw [← e]; exact Nat.lt_irrefl _)) (next_is_new F)
    (fun p hp => Nat.ne_of_lt (Heap.lt_size (N p hp).1)) ?_
  intro D C h tk m' ys F' N' o1 hn hC₀ hD₀ hCL hDL hCD offC hy
  refine ⟨m', hn, fun h'' hs'' => R' ys hy D h'' tk (F'.change hs'' hCL hC₀) (fun p hp => ?_) o1⟩
  refine ⟨hs''.extBut _ _ ?_ (N' p hp).1, (N' p hp).2⟩
  rcases List.mem_cons.mp hp with rfl | hp
  · exact Ne.symm hCD
  · exact offC p hp
end

end
section
open PySem.Spec PySem.SeqAt PyProof.V
section
theorem reads_refs {h : Heap} : ∀ vs : List Value, (∀ v ∈ vs, ∃ (c : Addr) (ws : List Value) (r : List Int), v = .ref c ∧ h.IsList c ws.toArray ∧ IntsAre ws r) →
    ∃ (rs : List (List Int)) (as : List Addr), rs.length = vs.length ∧ ReadsAll h vs (rs.map fun r => PyData.list (r.map PyData.int)) as
  | [], _ => ⟨[], [], rfl, .nil⟩
  | v :: vs, hv => by
    obtain ⟨c, ws, r, rfl, hl, hi⟩ := hv v List.mem_cons_self
    obtain ⟨rs, as, e, R⟩ := reads_refs vs fun v hm => hv v (List.mem_cons_of_mem _ hm)
    exact ⟨r :: rs, _, by simp [e], .cons (reads_of_ints hl hi) R⟩
theorem lay_lists : ∀ rs : List (List Int), PyData.canLayAll0 (rs.map fun r => PyData.list (r.map PyData.int)) = true
  | [] => by simp [PyData.canLayAll0]
  | r :: rs => by simp [PyData.canLayAll0, PyData.canLay0, lay_lists rs, canLayAll0_ints r]
theorem depth_lists : ∀ rs : List (List Int), PyData.depthAll (rs.map fun r => PyData.list (r.map PyData.int)) ≤ 4
  | [] => by simp [PyData.depthAll]
  | r :: rs => by
    have h1 := depth_lists rs
    have h2 := W.depthAll_ints r
    simp only [List.map_cons, PyData.depthAll, PyData.depth]
    (first | lia | omega)
theorem shaped_lists (rs : List (List Int)) : shaped (.list (rs.map fun r => PyData.list (r.map PyData.int))) = true := by
  have h1 := depth_lists rs
  show (PyData.canLay0 _ && decide (PyData.depth _ ≤ 64)) = true
  rw [Bool.and_eq_true]
  exact ⟨by simp only [PyData.canLay0]; exact lay_lists rs, decide_eq_true (by simp only [PyData.depth]; (first | lia | omega))⟩
variable {prog : Program} {w : World} {A : Around} {E : Value → Shared → Prop} {s : Shared}
theorem eq_refs_nil {a b : Addr} {vs : List Value} {Q : Value → Shared → Prop} (ha : s.heap.IsList a vs.toArray) (hb : s.heap.IsList b #[]) (hv : ∀ v ∈ vs, ∃ (c : Addr) (ws : List Value) (r : List Int), v = .ref c ∧ s.heap.IsList c ws.toArray ∧ IntsAre ws r) (hu : A.units + 64 < cLine)
    (h : Q (.bool (decide (vs = []))) s) : wpAny (model prog w) A (compareOp .Eq (.ref a) (.ref b)) Q E s := by
  obtain ⟨rs, as, el, R⟩ := reads_refs vs hv
  obtain ⟨o, ho, hc, n, hd⟩ := ha
  refine eq_dataH_same (Reads.list ho hc hd (by simpa using R)) (reads_of_ints (ns := []) hb .nil) (shaped_lists rs) (shaped_ints []) hu ?_ ?_
  · cases rs <;> simp [noMix, noMixAll]
  · have e : PySem.Spec.same (.list (rs.map fun r => PyData.list (r.map PyData.int))) (.list ([].map PyData.int)) = decide (vs = []) := by
      cases rs with
      | nil =>
        have : vs = [] := List.eq_nil_of_length_eq_zero el.symm
        simp [PySem.Spec.same, PySem.Spec.sameAll, this]
      | cons r rs =>
        have : vs ≠ [] := by intro q; subst q; simp at el
        simp [PySem.Spec.same, PySem.Spec.sameAll, this]
    rw [e]; exact h
end

end
def LawOk (s₁ : Shared) (v : Value) (s' : Shared) : Prop := v = .bool true ∧ (∀ b o, s₁.heap.get? b = some o → s'.heap.get? b = some o) ∧ s'.gens = s₁.gens ∧ s'.os = s₁.os
def lawB : List Stmt := match PySem.Challenge.pw_ic0001_01.main.body with
  | [_, _, _, _, _, _, _, _, _, _, _, .FunctionDef _ _ b _ _ _ _ _ _ _] => b
  | _ => []
def lawSc : Scope := match PySem.Challenge.pw_ic0001_01.main.body with
  | [_, _, _, _, _, _, _, _, _, _, _, .FunctionDef _ _ _ _ _ _ sc _ _ _] => sc
  | _ => { kind := .module, names := [], isGenerator := false, isCoroutine := false, more := [] }
theorem num_le {n : Nat} {G : Nat → Nat → Prop} : num n G ≤ n := by
  obtain ⟨S, h, e⟩ := num_sys n G
  rw [e]
  refine nodup_le n S ?_ h.dom
  rw [List.Nodup]
  refine h.apart.imp fun hab e => hab ?_
  subst e
  exact .refl _
/-- the three numbers of an order -/
noncomputable def nC (ks : List Int) : Nat := num ks.length (stp ks.length (fn ks))
noncomputable def nF (ks : List Int) : Nat := num ks.length (stp ks.length (fie (fn ks)))
noncomputable def nP (ks : List Int) (m : Nat) : Nat := num ks.length (pg ks.length (fn ks) m)
abbrev tup4 (C m F P : Nat) (t1 t2 t3 t4 : Tok) : Obj := { cls := .type "tuple", data := .seq #[.int (C : Nat) t1, .int (m : Nat) t2, .int (F : Nat) t3, .int (P : Nat) t4] }
section
variable {A : Around} {h₀ : Heap} {L : Addr} {m' : Str → Option Value} {news : List (Addr × Obj)} {s : Shared} {E : Value → Shared → Prop}
theorem told_K {w : World} {loose : List Str} {mean : ExcName → Option Value} {mg mb : Str → Option Value} {x : Array UInt8} {t : Tok} {ks : List Int} (hk : KBw.bInts x = ks) {m : Nat} (ho : Ord ks m) {Q : Value → Shared → Prop} (hh : A.handled = none)
    (F : Fr h₀ L s.heap m') (N : News h₀ L s.heap news) (X : (Mine.hd.heap_39 w.params).In h₀) (T : Top Mine.hd.view_39 loose mean mg mb h₀) (hd : A.depth + 12 < recursionLimit) (hu : A.units + 140 < cLine)
    (h : ∀ a C Fd P t1 t2 t3 t4 h' k, Fr h₀ L h' m' → News h₀ L h' ((a, tup4 C m Fd P t1 t2 t3 t4) :: news) → LCg.Off1 a news → (C = nC ks ∧ Fd = nF ks ∧ P = nP ks m) → C ≤ 8 → Fd ≤ 8 → P ≤ 8 → Q (.ref a) { s with heap := h', toks := k }) :
    wpAny (model Challenge.rw_ic0001_01.row.toRowW.prog w) A (call (.ref 63) [.bytes x t]) Q E s := by
  refine use_tellsH (told_tells w loose mean mg mb x t ks hk m ho) hh F N X T hd hu fun r h' k _ F' N' hnew hr => ?_
  obtain ⟨a, t1, t2, t3, t4, rfl, ha, ha'⟩ := hr
  obtain ⟨n1, n2, n3⟩ := hnew a ha
  have h8 : ks.length ≤ 8 := by have := ho.len; have := ho.few; (first | lia | omega)
  refine h a (nC ks) (nF ks) (nP ks m) t1 t2 t3 t4 h' k F' (fun p hp => ?_) (Mine.Off1.of n3) ⟨rfl, rfl, rfl⟩ (Nat.le_trans num_le h8) (Nat.le_trans num_le h8) (Nat.le_trans num_le h8)
  rcases List.mem_cons.mp hp with rfl | hp
  · exact ⟨ha', n1, n2⟩
  · exact N' p hp
theorem told_E {w : World} {loose : List Str} {mean : ExcName → Option Value} {mg mb : Str → Option Value} {x : Array UInt8} {t : Tok} {ks : List Int} (hk : KBw.bInts x = ks) {m : Nat} (ho : Ord ks m) {C Fd P : Nat} (eC : nC ks = C) (eF : nF ks = Fd) (eP : nP ks m = P) {Q : Value → Shared → Prop} (hh : A.handled = none)
    (F : Fr h₀ L s.heap m') (N : News h₀ L s.heap news) (X : (Mine.hd.heap_39 w.params).In h₀) (T : Top Mine.hd.view_39 loose mean mg mb h₀) (hd : A.depth + 12 < recursionLimit) (hu : A.units + 140 < cLine)
    (h : ∀ a t1 t2 t3 t4 h' k, Fr h₀ L h' m' → News h₀ L h' ((a, tup4 C m Fd P t1 t2 t3 t4) :: news) → LCg.Off1 a news → C ≤ 8 → Fd ≤ 8 → P ≤ 8 → Q (.ref a) { s with heap := h', toks := k }) :
    wpAny (model Challenge.rw_ic0001_01.row.toRowW.prog w) A (call (.ref 63) [.bytes x t]) Q E s := by
  subst eC eF eP
  refine told_K hk ho hh F N X T hd hu fun a C Fd P t1 t2 t3 t4 h' k F' N' o e => ?_
  obtain ⟨rfl, rfl, rfl⟩ := e
  exact h a t1 t2 t3 t4 h' k F' N' o
theorem rings_KI {w : World} {loose : List Str} {mean : ExcName → Option Value} {mg mb : Str → Option Value} {x : Array UInt8} {t : Tok} {ks : List Int} (hk : KBw.bInts x = ks) {m : Nat} (ho : Ord ks m) {Q : Value → Shared → Prop} (hh : A.handled = none)
    (F : Fr h₀ L s.heap m') (N : News h₀ L s.heap news) (X : (Mine.hd.heap_39 w.params).In h₀) (T : Top Mine.hd.view_39 loose mean mg mb h₀) (hd : A.depth + 10 < recursionLimit) (hu : A.units + 100 < cLine)
    (h : ∀ a (refs : List Value) nf inner xs (rs : List (List Int)) h' k, Fr h₀ L h' m' → News h₀ L h' ((a, PySem.W.listOf refs.toArray nf) :: (news ++ inner)) → (∀ p ∈ news, p.1 ≠ a) → (∀ q ∈ inner, q.1 ≠ a ∧ ∀ p ∈ news, p.1 ≠ q.1) → Inn inner refs rs → Fnd ks.length (fn ks) xs rs → (∀ y : Nat, y < ks.length → (y : Int) ∈ rs.flatten) → Q (.ref a) { s with heap := h', toks := k }) :
    wpAny (model Challenge.rw_ic0001_01.row.toRowW.prog w) A (call (.ref 46) [.bytes x t]) Q E s := by
  refine use_tellsH (rings_tells w loose mean mg mb x t ks hk m ho) hh F N X T hd hu fun r h' k _ F' N' hnew hr => ?_
  obtain ⟨a, refs, nf, inner, xs, rs, rfl, ha, ha', hin, hI, hf, hall⟩ := hr
  obtain ⟨n1, n2, n3⟩ := hnew a ha
  refine h a refs nf inner xs rs h' k F' (fun p hp => ?_) n3 (fun q hq => ⟨(hin q hq).2.2, (hnew q.1 (hin q hq).1).2.2⟩) hI hf hall
  rcases List.mem_cons.mp hp with rfl | hp
  · exact ⟨ha', n1, n2⟩
  · rcases List.mem_append.mp hp with hp | hp
    · exact N' p hp
    · obtain ⟨b1, b2, b3⟩ := hin p hp
      exact ⟨b2, (hnew p.1 b1).1, (hnew p.1 b1).2.1⟩
end
theorem Inn.at {inner : List (Addr × Obj)} {refs : List Value} {rs : List (List Int)} (h : Inn inner refs rs) : ∀ (i : Nat) v, refs[i]? = some v → ∃ (c : Addr) (ws : List Value) (k : Nat) (r : List Int), v = .ref c ∧ (c, PySem.W.listOf ws.toArray k) ∈ inner ∧ IntsAre ws r ∧ rs[i]? = some r := by
  induction h with
  | nil => intro i v e; simp at e
  | @snoc inner refs rs c vs k r hI hv ih =>
    intro i v e
    have hl := hI.len
    by_cases hi : i < refs.length
    · rw [List.getElem?_append_left hi] at e
      obtain ⟨c', ws, k', r', e1, e2, e3, e4⟩ := ih i v e
      exact ⟨c', ws, k', r', e1, List.mem_append.mpr (.inl e2), e3, by rw [List.getElem?_append_left (by (first | lia | omega))]; exact e4⟩
    · rw [List.getElem?_append_right (by (first | lia | omega))] at e
      have h0 : i - refs.length = 0 := by
        rcases Nat.eq_zero_or_pos (i - refs.length) with h | h
        · exact h
        · rw [List.getElem?_eq_none (by simp; (first | lia | omega))] at e; cases e
      rw [h0] at e
      cases e
      refine ⟨c, vs, k, r, rfl, List.mem_append.mpr (.inr (List.mem_singleton.mpr rfl)), hv, ?_⟩
      rw [List.getElem?_append_right (by (first | lia | omega)), ← hl, h0]
      rfl

/-- all ends changed about -/
def chgL (ks : List Int) : List Int := (List.range ks.length).map fun i => ((flip (fn ks (flip i)) : Nat) : Int)
theorem fn_chg {ks : List Int} {i : Nat} (hi : i < ks.length) : fn (chgL ks) i = flip (fn ks (flip i)) := by
  show ((chgL ks).getD i 0).toNat = _
  unfold chgL
  rw [List.getD_eq_getElem?_getD, List.getElem?_eq_getElem (by simpa using hi), Option.getD_some, List.getElem_map, List.getElem_range, Int.toNat_natCast]
theorem chg_len (ks : List Int) : (chgL ks).length = ks.length := by simp [chgL]
theorem chg_perm {n m : Nat} {f : Nat → Nat} (h : PermOn n f) (hn : n = 2 * m) : PermOn n fun x => flip (f (flip x)) := by
  have fl : ∀ x, x < n → flip x < n := fun x hx => by have := flip_lt (m := m) (x := x) (by (first | lia | omega)); (first | lia | omega)
  refine ⟨fun x hx => fl _ (h.1 _ (fl x hx)), fun x y hx hy e => ?_⟩
  have e1 := congrArg flip e
  simp only [flip_flip] at e1
  have e2 := congrArg flip (h.2 _ _ (fl x hx) (fl y hy) e1)
  simpa only [flip_flip] using e2
theorem ord_chg {ks : List Int} {m : Nat} (ho : Ord ks m) : Ord (chgL ks) m := by
  refine ⟨by rw [chg_len]; exact ho.len, ho.pos, ho.few, ?_, fun k hk => ?_⟩
  · rw [chg_len]
    exact perm_congr (fun x hx => (fn_chg hx).symm) (chg_perm ho.perm ho.len)
  · obtain ⟨i, _, rfl⟩ := List.mem_map.mp hk
    (first | lia | omega)
theorem chg_C {ks : List Int} {m : Nat} (ho : Ord ks m) : nC (chgL ks) = nC ks := by
  unfold nC; rw [chg_len]; exact chg_num ho.len fun x hx => fn_chg hx
theorem chg_F {ks : List Int} {m : Nat} (ho : Ord ks m) : nF (chgL ks) = nF ks := by
  unfold nF; rw [chg_len]; exact chg_fie ho.len fun x hx => fn_chg hx
theorem chg_P {ks : List Int} {m : Nat} (ho : Ord ks m) : nP (chgL ks) m = nP ks m := by
  unfold nP; rw [chg_len]; exact chg_pg ho.len fun x hx => fn_chg hx
theorem chg_in {ks : List Int} {m : Nat} (ho : Ord ks m) : KBa.In (chgL ks) := by
  intro z hz
  obtain ⟨i, hi, rfl⟩ := List.mem_map.mp hz
  have : flip (fn ks (flip i)) < ks.length := (chg_perm ho.perm ho.len).1 i (List.mem_range.mp hi)
  have := ho.len; have := ho.few
  (first | lia | omega)
set_option maxHeartbeats 2000000 in
theorem rest16 (w : World) (loose : List Str) (mean : ExcName → Option Value) (mg mb : Str → Option Value) :
    ∀ (st1 st2 st3 st4 st5 st6 st7 st8 st9 st10 st11 st12 st13 st14 st15 : Stmt) (rest : List Stmt) (sc : Scope), lawB = st1 :: st2 :: st3 :: st4 :: st5 :: st6 :: st7 :: st8 :: st9 :: st10 :: st11 :: st12 :: st13 :: st14 :: st15 :: rest → lawSc = sc →
    ∀ (fa : Addr) (cd : Value) (s₁ : Shared) (h : Heap) (tk : Nat) (f : Str → Option Value) (x : Array UInt8) (t ut u1 u2 u3 u4 : Tok) (ks : List Int) (m : Nat) (o1 o3 : Obj), (Mine.hd.heap_39 w.params).In s₁.heap → Top Mine.hd.view_39 loose mean mg mb s₁.heap →
    KBw.bInts x = ks → Ord ks m →
    f (Str.ofString "corners") = some (.int (nC ks : Nat) u1) → f (Str.ofString "many") = some (.int (m : Nat) u2) → f (Str.ofString "fields") = some (.int (nF ks : Nat) u3) → f (Str.ofString "pieces") = some (.int (nP ks m : Nat) u4) →
    o1.data = .cell (some (.int (m : Nat) ut)) → o3.data = .cell (some (.bytes x t)) →
    Fr s₁.heap s₁.heap.objs.size h f → News s₁.heap s₁.heap.objs.size h [(s₁.heap.objs.size + 1 + 1 + 1, o3), (s₁.heap.objs.size + 1, o1)] →
    wpAny (model Challenge.rw_ic0001_01.row.toRowW.prog w) (callerA.deeper (envOfC (Str.ofString "law") sc s₁.heap.objs.size fa cd)) (execs rest (envOfC (Str.ofString "law") sc s₁.heap.objs.size fa cd)) (fun fl s' => LawOk s₁ (retOf fl) s') (fun _ _ => False) { s₁ with heap := h, toks := tk } := by
  w_top off
  k_fill
  k_with_none
  k_with "eval Name" => (k_here; (with_reducible show wpAny _ _ (eval (Expr.Name _ _) (envOfC _ _ _ _ _)) _ _ _); k_dflt (refine' nameX_C ?qw_N ?qw_c ?qw_m ?qw_d ?_ ?qw_a ?qw_b; (case qw_a => rfl); (case qw_b => rfl); (case qw_N => with_reducible assumption); (case qw_c => rfl); (case qw_m => kcf_m); (case qw_d => with_reducible assumption)))
  k_with "call ref" => (k_here; (with_reducible show wpAny _ _ (call (Value.ref 63) [Value.bytes _ _]) _ _ _); refine Later.out ?_)
  k_with "call type:bytes" => (k_here; (with_reducible show wpAny _ _ (call (Value.type "bytes") [Value.ref _]) _ _ _); refine Later.out ?_)
  k_with "binaryOp BitXor int int" => (k_here; (refine' xor_K ?qw_h0 ?qw_hm ?qw_h4 ?_; (case qw_h4 => assumption); (case qw_h0 => (first | lia | omega)); (case qw_hm => (first | lia | omega))); intro _ _)
  intro st1 st2 st3 st4 st5 st6 st7 st8 st9 st10 st11 st12 st13 st14 st15 rest sc hb hs fa cd s₁ h tk f x t ut u1 u2 u3 u4 ks m o1 o3 X T hk ho f1 f2 f3 f4 d1 d3 F N
  dsimp only [lawB, PySem.Challenge.pw_ic0001_01] at hb
  dsimp only [lawSc, PySem.Challenge.pw_ic0001_01] at hs
  cases hb
  cases hs
  have F8 := frame1 (frame1 (frame1 (frame1 F f1) (a := Str.ofString "many") (u := .int (m : Nat) u2) ((if_neg (by decide)).trans f2)) (a := Str.ofString "fields") (u := .int (nF ks : Nat) u3) ((if_neg (by decide)).trans ((if_neg (by decide)).trans f3))) (a := Str.ofString "pieces") (u := .int (nP ks m : Nat) u4) ((if_neg (by decide)).trans ((if_neg (by decide)).trans ((if_neg (by decide)).trans f4)))
  clear F
  have hm4 : m ≤ 400 := by have := ho.few; (first | lia | omega)
  have hlen := ho.len
  k_with "CompSrc" => k_dflt (refine src_mapR (n := ks.length) (fun k => ((flip (fn ks (flip k.toNat)) : Nat) : Int)) (by rfl) (by k_asm) (by k_asm) (by assumption) (small_one (by (first | lia | omega)) (by (first | lia | omega)) (by (first | lia | omega)) (by (first | lia | omega))) ((rangeSize_nat _ _).trans (by (first | lia | omega))) (by rw [PySem.sizeLine_eq]; (first | lia | omega)) (fun gh => Later.out ?_) (fun gh ys hy => ?_))
  k_steps
  · unfold Later TurnM
    intro k1 t1 I1 oI1 C1 oC1 D1 m3 ys1 hp1 tk1 E1 hk1 hC1 hx1 F1 N1 off1 ne1 hM1
    (try simp only [LCg.Off3, and_true] at off1)
    have hk0 := (mem_rangeKs hk1).1
    have hk2 := (mem_rangeKs hk1).2
    have hm44 : m ≤ 4 := ho.few
    have hfl := flip_lt (m := m) (x := k1.toNat) (by (first | lia | omega))
    have hv := ho.prm.at (i := flip k1.toNat) (by (first | lia | omega))
    have hv1 := ho.perm.1 (flip k1.toNat) (by (first | lia | omega))
    have hv2 : ks.getD ((((flip k1.toNat : Nat) : Int)).toNat) 0 = ((fn ks (flip k1.toNat) : Nat) : Int) := by rw [Int.toNat_natCast]; exact hv
    have hin := bInts_in hk
    k_steps
  · unfold Later
    (with_reducible rename Fr _ _ _ _ => F9)
    (with_reducible rename News _ _ _ _ => N9)
    have er : (rangeKs 0 ks.length).map (fun k => ((flip (fn ks (flip k.toNat)) : Nat) : Int)) = chgL ks := by
      unfold rangeKs chgL
      rw [List.map_map]
      refine List.map_congr_left fun k _ => ?_
      show ((flip (fn ks (flip ((0 : Int) + (k : Int)).toNat)) : Nat) : Int) = _
      rw [show ((0 : Int) + (k : Int)).toNat = k by (first | lia | omega)]
    rw [er] at hy
    refine make_B F9 N9 rfl (News.isList N9 (List.Mem.head _)) hy (chg_in ho) (by rw [chg_len]; (first | lia | omega)) ?_
    intro h9 b9 t9 k9 F7 N7 e9
    clear F9 N9
    k_steps
    unfold Later
    (with_reducible rename Fr _ _ _ _ => F9)
    (with_reducible rename News _ _ _ _ => N9)
    refine told_E e9 (ord_chg ho) (chg_C ho) (chg_F ho) (chg_P ho) rfl F9 N9 X T (by ktr_room) (by ktr_units) ?_
    intro a t1 t2 t3 t4 h5 k5 F5 N5 o5 c8 d8 p8
    clear F9 N9
    k_steps
    exact ⟨rfl, Fr.keep (by assumption), rfl, rfl⟩

section
local macro_rules | `(tactic| k_all) => `(tactic| exact OwnOff.ne (by with_reducible assumption) (by kcf_m))
def both (rest : List (Addr × Obj)) (k : Int) (v : Value) : Prop := ∃ (c : Addr) (ws : List Value) (kk : Nat) (r : List Int), v = .ref c ∧ (c, PySem.W.listOf ws.toArray kk) ∈ rest ∧ IntsAre ws r ∧ 2 * k ∈ r ∧ 2 * k + 1 ∈ r
noncomputable def qv (rest : List (Addr × Obj)) (k : Int) (v : Value) : Bool := @decide (both rest k v) (Classical.propDecidable _)
theorem news_dup {h₀ h : Heap} {L : Addr} {l : List (Addr × Obj)} {p : Addr × Obj} (N : News h₀ L h l) (hp : p ∈ l) : News h₀ L h (p :: l) := fun q hq => (List.mem_cons.mp hq).elim (fun e => e ▸ N p hp) fun hq => N q hq
theorem ints_uniq : ∀ {vs : List Value} {a b : List Int}, IntsAre vs a → IntsAre vs b → a = b
  | _, _, _, .nil, .nil => rfl
  | _, _, _, .cons k t r, .cons _ _ r' => by rw [ints_uniq r r']
theorem both_eq {h₀ h : Heap} {L : Addr} {l rest : List (Addr × Obj)} {c : Addr} {ws : List Value} {kk : Nat} {r : List Int} {k : Int} (N : News h₀ L h l) (hsub : ∀ p ∈ rest, p ∈ l) (hm : (c, PySem.W.listOf ws.toArray kk) ∈ rest) (hi : IntsAre ws r) :
    qv rest k (.ref c) = ((r.any fun x => x == 2 * k) && r.any fun x => x == 2 * k + 1) := by
  have an : ∀ z, (r.any fun x => x == z) = true ↔ z ∈ r := fun z => by
    rw [List.any_eq_true]
    exact ⟨fun ⟨x, hx, e⟩ => beq_iff_eq.mp e ▸ hx, fun h => ⟨z, h, beq_self_eq_true z⟩⟩
  have key : both rest k (.ref c) ↔ 2 * k ∈ r ∧ 2 * k + 1 ∈ r := by
    constructor
    · rintro ⟨c', ws', kk', r', e, hm', hi', h1, h2⟩
      cases e
      have e1 := (N _ (hsub _ hm)).1
      have e2 := (N _ (hsub _ hm')).1
      rw [e1] at e2
      have e3 : ws.toArray = ws'.toArray := by
        have := Option.some.inj e2
        injection this with _ _ e4 _
        injection e4 with e5 _
      have e6 : ws = ws' := by simpa using e3
      subst e6
      rw [ints_uniq hi hi']
      exact ⟨h1, h2⟩
    · rintro ⟨h1, h2⟩
      exact ⟨c, ws, kk, r, rfl, hm, hi, h1, h2⟩
  unfold qv
  rw [Bool.eq_iff_iff, @decide_eq_true_iff _ (Classical.propDecidable _), Bool.and_eq_true, an, an]
  exact key
/-- the loop's statements -/
def loopB : List Stmt := match lawB with
  | [_, _, _, _, _, _, _, _, _, _, _, _, _, _, .For _ _ b _ _, _, _] => b
  | _ => []
/-- the tie's two ends lie in unlike fields -/
noncomputable def apt (ks : List Int) (k : Int) : Bool := @decide (¬ Cyc ks.length (fie (fn ks)) (2 * k.toNat) (2 * k.toNat + 1)) (Classical.propDecidable _)
theorem apt_eq {ks : List Int} {m : Nat} (ho : Ord ks m) {refs : List Value} {rest : List (Addr × Obj)} {rs : List (List Int)} {xs : List Nat} (hlen : refs.length = rs.length) (hf : Fnd (fiel ks).length (fn (fiel ks)) xs rs) (hall : ∀ y : Nat, y < (fiel ks).length → (y : Int) ∈ rs.flatten)
    {h₀ h : Heap} {L : Addr} {l : List (Addr × Obj)} (N : News h₀ L h l) (hsub : ∀ p ∈ rest, p ∈ l)
    (hat : ∀ (i : Nat) v, refs[i]? = some v → ∃ (c : Addr) (ws : List Value) (k : Nat) (r : List Int), v = .ref c ∧ (c, PySem.W.listOf ws.toArray k) ∈ rest ∧ IntsAre ws r ∧ rs[i]? = some r) {k : Int} (h0 : 0 ≤ k) (h1 : k < m) :
    decide (refs.filter (qv rest k) = []) = apt ks k := by
  have hof := ord_fiel ho
  have hl := ho.len
  have key := hf.like hof.perm hall (a := 2 * k.toNat) (b := 2 * k.toNat + 1) (by rw [fiel_len]; (first | lia | omega))
  have hc : Cyc (fiel ks).length (fn (fiel ks)) (2 * k.toNat) (2 * k.toNat + 1) ↔ Cyc ks.length (fie (fn ks)) (2 * k.toNat) (2 * k.toNat + 1) := by
    rw [fiel_len]
    exact ⟨cyc_congr fun x hx => fn_fiel ho hx, cyc_congr fun x hx => (fn_fiel ho hx).symm⟩
  have ek : ((2 * k.toNat : Nat) : Int) = 2 * k := by (first | lia | omega)
  have ek2 : ((2 * k.toNat + 1 : Nat) : Int) = 2 * k + 1 := by (first | lia | omega)
  rw [ek, ek2, hc] at key
  have an : ∀ (r : List Int) z, (r.any fun x => x == z) = true ↔ z ∈ r := fun r z => by
    rw [List.any_eq_true]
    exact ⟨fun ⟨x, hx, e⟩ => beq_iff_eq.mp e ▸ hx, fun h => ⟨z, h, beq_self_eq_true z⟩⟩
  have big : refs.filter (qv rest k) = [] ↔ ¬ ∃ r ∈ rs, 2 * k ∈ r ∧ 2 * k + 1 ∈ r := by
    rw [List.filter_eq_nil_iff]
    constructor
    · rintro hn ⟨r, hr, h2, h3⟩
      obtain ⟨i, hi, e⟩ := List.getElem_of_mem hr
      have hi2 : i < refs.length := by (first | lia | omega)
      have hv : refs[i]? = some refs[i] := List.getElem?_eq_getElem hi2
      obtain ⟨c, ws, kk, r', e1, hm, hi', hr'⟩ := hat i _ hv
      rw [List.getElem?_eq_getElem hi, e] at hr'
      cases hr'
      refine hn _ (List.getElem_mem hi2) ?_
      rw [e1, both_eq N hsub hm hi', Bool.and_eq_true, an, an]
      exact ⟨h2, h3⟩
    · intro hn v hv hq
      obtain ⟨i, hi⟩ := List.getElem?_of_mem hv
      obtain ⟨c, ws, kk, r, e1, hm, hi', hr⟩ := hat i v hi
      rw [e1, both_eq N hsub hm hi', Bool.and_eq_true, an, an] at hq
      exact hn ⟨r, List.mem_of_getElem? hr, hq.1, hq.2⟩
  unfold apt
  rw [Bool.eq_iff_iff, decide_eq_true_iff, @decide_eq_true_iff _ (Classical.propDecidable _), big, key]
set_option maxHeartbeats 4000000 in
theorem apart_st (w : World) (loose : List Str) (mean : ExcName → Option Value) (mg mb : Str → Option Value) :
    ∀ (b1 b2 : Stmt) (rest : List Stmt) (sc : Scope), loopB = b1 :: b2 :: rest → lawSc = sc →
    ∀ (fa : Addr) (cd : Value) (s₁ : Shared) (h : Heap) (tk : Nat) (f : Str → Option Value) (y : Array UInt8) (ty : Tok) (ks : List Int) (m : Nat) (o1 o2 o3 o4 o5 : Obj) (v5 : Option Value) (own : List (Addr × Obj)) (Q : Flow → Shared → Prop) (E : Value → Shared → Prop), (Mine.hd.heap_39 w.params).In s₁.heap → Top Mine.hd.view_39 loose mean mg mb s₁.heap →
    KBw.bInts y = ks → Ord ks m → o4.data = .cell (some (.bytes y ty)) → o5.data = .cell v5 →
    OwnOff own [s₁.heap.objs.size + 1 + 1 + 1 + 1 + 1, s₁.heap.objs.size + 1 + 1 + 1 + 1, s₁.heap.objs.size + 1 + 1 + 1, s₁.heap.objs.size + 1 + 1, s₁.heap.objs.size + 1] →
    Fr s₁.heap s₁.heap.objs.size h f → News s₁.heap s₁.heap.objs.size h ((s₁.heap.objs.size + 1 + 1 + 1 + 1 + 1, o5) :: (s₁.heap.objs.size + 1 + 1 + 1 + 1, o4) :: (s₁.heap.objs.size + 1 + 1 + 1, o3) :: (s₁.heap.objs.size + 1 + 1, o2) :: (s₁.heap.objs.size + 1, o1) :: own) →
    (∀ h' tk' o5' v5' D ys kk, Fr s₁.heap s₁.heap.objs.size h' (fun z => if z = Str.ofString "apart" then some (.ref D) else f z) → News s₁.heap s₁.heap.objs.size h' ((D, PySem.W.listOf (ys : List Value).toArray kk) :: (s₁.heap.objs.size + 1 + 1 + 1 + 1 + 1, o5') :: (s₁.heap.objs.size + 1 + 1 + 1 + 1, o4) :: (s₁.heap.objs.size + 1 + 1 + 1, o3) :: (s₁.heap.objs.size + 1 + 1, o2) :: (s₁.heap.objs.size + 1, o1) :: own) →
      o5'.data = .cell v5' → IntsAre ys ((rangeKs 0 m).filter (apt ks)) → ((@Ne Nat (s₁.heap.objs.size + 1 + 1 + 1 + 1 + 1) D) ∧ (@Ne Nat (s₁.heap.objs.size + 1 + 1 + 1 + 1) D) ∧ (@Ne Nat (s₁.heap.objs.size + 1 + 1 + 1) D) ∧ (@Ne Nat (s₁.heap.objs.size + 1 + 1) D) ∧ (@Ne Nat (s₁.heap.objs.size + 1) D)) → (∀ p ∈ own, p.1 ≠ D) →
      wpAny (model Challenge.rw_ic0001_01.row.toRowW.prog w) (callerA.deeper (envOfC (Str.ofString "law") sc s₁.heap.objs.size fa cd)) (execs rest (envOfC (Str.ofString "law") sc s₁.heap.objs.size fa cd)) Q E { s₁ with heap := h', toks := tk' }) →
    wpAny (model Challenge.rw_ic0001_01.row.toRowW.prog w) (callerA.deeper (envOfC (Str.ofString "law") sc s₁.heap.objs.size fa cd)) (execs (b1 :: b2 :: rest) (envOfC (Str.ofString "law") sc s₁.heap.objs.size fa cd)) Q E { s₁ with heap := h, toks := tk } := by
  w_top off
  k_fill
  k_with_none
  k_with "eval Name" => (k_here; (with_reducible show wpAny _ _ (eval (Expr.Name _ _) (envOfC _ _ _ _ _)) _ _ _); k_dflt (refine' nameX_C ?qw_N ?qw_c ?qw_m ?qw_d ?_ ?qw_a ?qw_b; (case qw_a => rfl); (case qw_b => rfl); (case qw_N => with_reducible assumption); (case qw_c => rfl); (case qw_m => kcf_m); (case qw_d => with_reducible assumption)))
  k_with "call ref" => (k_here; (with_reducible show wpAny _ _ (call (Value.ref 51) [Value.bytes _ _]) _ _ _); k_dflt (refine' use_tells (fields_tells _ _ _ _ _ _ _ _ ?qw_hk _ ?qw_hm ?qw_hm1 ?qw_hm4) ?qw_hh ?qw_F ?qw_N ?qw_X ?qw_T ?qw_d ?qw_u ?qw_p ?_; (case qw_hk => with_reducible assumption); (case qw_hm => exact Ord.len (by assumption)); (case qw_hm1 => exact Ord.pos (by assumption)); (case qw_hm4 => exact Ord.few (by assumption)); (case qw_hh => exact rfl); (case qw_F => k_asm); (case qw_N => k_asm); (case qw_X => assumption); (case qw_T => assumption); (case qw_d => ktr_room); (case qw_u => ktr_units); (case qw_p => trivial)); intro r_w h_w k_w F_w N_w hr_w; obtain ⟨y_w, t_w, e9_w, e_w⟩ := hr_w; subst e9_w)
  k_with "call ref" => (k_here; (with_reducible show wpAny _ _ (call (Value.ref 46) [Value.bytes _ _]) _ _ _); refine Later.out ?_)
  k_with "exec Assign cons ListComp" => (k_here; (with_reducible show wpAny _ _ (exec (Stmt.Assign [Expr.Name _ _] (Expr.ListComp _ [⟨Expr.Name (Str.ofString "tie") _, _, [_], _⟩] _ _) _) _) _ _ _); k_dflt (refine Assign_CR (by k_asm) (by rfl) (by with_unfolding_all rfl) (by with_unfolding_all rfl) (by intro n acc; rfl) (by rfl) (by decide) (by rfl) (by rfl) (by rfl) ?_))
  k_with "eval ListComp" => (k_here; (with_reducible show wpAny _ _ (eval (Expr.ListComp _ [⟨Expr.Name (Str.ofString "ring") _, _, [_], _⟩] _ _) _) _ _ _); k_dflt (refine LCt.ListComp_T (F₀ := by k_asm) (by with_unfolding_all rfl) (by decide) (by rfl) (by decide) (by rfl) ?_))
  k_with "call ref" => (k_here; (with_reducible show wpAny _ _ (call (Value.ref 68) [Value.bytes _ _, Value.int _ _]) _ _ _); refine Later.out ?_)
  k_with "execs cons Assign cons" => ((with_reducible show wpAny _ _ (execs (Stmt.Assign [Expr.Name (Str.ofString "changed") _] _ _ :: _) _) _ _ _); refine Later.out ?_)
  k_with "execs cons If" => refine Later.out ?_
  k_with "execs cons If cons" => refine Later.out ?_
  intro b1 b2 rest' sc hb hs fa cd s₁ h tk f y ty ks m o1 o2 o3 o4 o5 v5 own Q E X T hk ho d4 d5 hoff F N hQ
  dsimp only [loopB, lawB, PySem.Challenge.pw_ic0001_01] at hb
  dsimp only [lawSc, PySem.Challenge.pw_ic0001_01] at hs
  cases hb
  cases hs
  have hofi := ord_fiel ho
  have h400 : ks.length ≤ 400 := by have := ho.len; have := ho.few; (first | lia | omega)
  have e2 : Int.fdiv (ks.length : Int) 2 = (m : Nat) := by
    rw [Int.fdiv_eq_ediv_of_nonneg _ (by decide)]; have := ho.len; (first | lia | omega)
  have hm4 : m ≤ 400 := by have := ho.few; (first | lia | omega)
  k_steps
  unfold Later
  (with_reducible rename Fr _ _ _ _ => F9)
  (with_reducible rename News _ _ _ _ => N9)
  (with_reducible rename KBw.bInts _ = fiel ks => e9)
  refine rings_KI e9 hofi rfl F9 N9 X T (by ktr_room) (by ktr_units) ?_
  intro a refs nf inner xs rs h2 k2 F2 N2 ha hin hI hf hall
  clear F9 N9
  replace N2 : News s₁.heap s₁.heap.objs.size h2 ((a, PySem.W.listOf refs.toArray nf) :: (s₁.heap.objs.size + 1 + 1 + 1 + 1 + 1, o5) :: (s₁.heap.objs.size + 1 + 1 + 1 + 1, o4) :: (s₁.heap.objs.size + 1 + 1 + 1, o3) :: (s₁.heap.objs.size + 1 + 1, o2) :: (s₁.heap.objs.size + 1, o1) :: (own ++ inner)) := N2
  have ha5 : (@Ne Nat (s₁.heap.objs.size + 1 + 1 + 1 + 1 + 1) a) ∧ (@Ne Nat (s₁.heap.objs.size + 1 + 1 + 1 + 1) a) ∧ (@Ne Nat (s₁.heap.objs.size + 1 + 1 + 1) a) ∧ (@Ne Nat (s₁.heap.objs.size + 1 + 1) a) ∧ (@Ne Nat (s₁.heap.objs.size + 1) a) :=
    ⟨ha (_, o5) (by kcf_m), ha (_, o4) (by kcf_m), ha (_, o3) (by kcf_m), ha (_, o2) (by kcf_m), ha (_, o1) (by kcf_m)⟩
  have hR : OwnOff (own ++ inner) [a, s₁.heap.objs.size + 1 + 1 + 1 + 1 + 1, s₁.heap.objs.size + 1 + 1 + 1 + 1, s₁.heap.objs.size + 1 + 1 + 1, s₁.heap.objs.size + 1 + 1, s₁.heap.objs.size + 1] := by
    intro p hp b hb
    rcases List.mem_append.mp hp with hp | hp
    · rcases List.mem_cons.mp hb with rfl | hb
      · exact ha p (by kcf_m)
      · exact hoff p hp b hb
    · obtain ⟨g1, g2⟩ := hin p hp
      rcases List.mem_cons.mp hb with rfl | hb
      · exact g1
      · obtain ⟨q, hq, rfl⟩ : ∃ q ∈ [(s₁.heap.objs.size + 1 + 1 + 1 + 1 + 1, o5), (s₁.heap.objs.size + 1 + 1 + 1 + 1, o4), (s₁.heap.objs.size + 1 + 1 + 1, o3), (s₁.heap.objs.size + 1 + 1, o2), (s₁.heap.objs.size + 1, o1)], q.1 = b := List.mem_map.mp hb
        exact Ne.symm (g2 q (List.mem_append.mpr (.inl hq)))
  have hat : ∀ (i : Nat) v, refs[i]? = some v → ∃ (c : Addr) (ws : List Value) (k : Nat) (r : List Int), v = .ref c ∧ (c, PySem.W.listOf ws.toArray k) ∈ own ++ inner ∧ IntsAre ws r ∧ rs[i]? = some r := fun i v e => by
    obtain ⟨c, ws, k, r, e1, e2, e3, e4⟩ := hI.at i v e
    exact ⟨c, ws, k, r, e1, List.mem_append.mpr (.inr e2), e3, e4⟩
  have hrl : refs.length ≤ 400 := by rw [hI.len]; have := hf.few; have := hofi.len; have := hofi.few; (first | lia | omega)
  have hap : ∀ k ∈ rangeKs 0 m, decide (refs.filter (qv (own ++ inner) k) = []) = apt ks k := fun k hk => by
    have h1 := (mem_rangeKs hk).1
    have h2 := (mem_rangeKs hk).2
    exact apt_eq ho hI.len hf hall N2 (by kcf_all) hat h1 (by (first | lia | omega))
  have hown : ∀ p ∈ own, p ∈ own ++ inner := fun p hp => List.mem_append.mpr (.inl hp)
  generalize own ++ inner = rest at *
  clear ha hin hI hf hall hoff
  k_with "CompSrcR" => k_dflt (refine CompSrcR.intro (n := m) (apt ks) (by rfl) (by k_asm) (by k_asm) (by assumption) (small_one (by (first | lia | omega)) (by (first | lia | omega)) (by (first | lia | omega)) (by (first | lia | omega))) (by rw [e2]; exact (rangeSize_nat _ _).trans (by (first | lia | omega))) (by rw [PySem.sizeLine_eq]; (first | lia | omega)) (fun gh => Later.out ?_) (fun gh ys hy => ?_))
  k_steps
  · unfold Later TurnC
    intro k0 t0 I0 oI0 C0 oC0 D0 c0 oc0 ys0 l0 h0 tk0 E0 hk0 hI0 hdc0 F0 N0 off0 ne0 o10 hM0
    unfold cellEnv
    have off3 := off0
    (try simp only [LCg.Off3, LCg.Off1] at off0 o10)
    have hkl := (mem_rangeKs hk0).1
    have hkh := (mem_rangeKs hk0).2
    have hap0 := hap k0 hk0
    clear hap hQ hown ha5
    k_with "CompSrcT" => k_dflt (refine src_filtV (vs := refs) (qv rest k0) (by rfl) (by k_asm) (by k_asm) (by kcf_m) (by rw [PySem.sizeLine_eq]; (first | lia | omega)) (fun gh => Later.out ?_) (fun gh => ?_))
    k_steps
    · unfold Later TurnV
      intro v1 I1 oI1 C1 oC1 D1 m3 ys1 hp1 tk1 E1 hv1 hC1 hx1 F1 N1 off1 ne1 hM1
      have off2 := off1
      (try simp only [LCg.Off3] at off1)
      obtain ⟨i1, hi1⟩ := List.getElem?_of_mem hv1
      obtain ⟨c, ws, kk, r, rfl, hmc, hir, hri⟩ := hat i1 v1 hi1
      have hq := both_eq (k := k0) N1 (rest := rest) (by kcf_all) hmc hir
      have N2 := news_dup N1 (p := (c, PySem.W.listOf ws.toArray kk)) (by kcf_m)
      clear N1 N0 hat
      k_steps
      all_goals first
        | ((with_reducible show true = _); rw [hq]; simp only [show (r.any fun x => x == 2 * k0) = true by with_reducible assumption, show (r.any fun x => x == 2 * k0 + 1) = true by with_reducible assumption, Bool.and_self]; done)
        | ((with_reducible show false = _); rw [hq]; simp only [show (r.any fun x => x == 2 * k0) = true by with_reducible assumption, show (r.any fun x => x == 2 * k0 + 1) = false by with_reducible assumption, Bool.and_false]; done)
        | ((with_reducible show false = _); rw [hq]; simp only [show (r.any fun x => x == 2 * k0) = false by with_reducible assumption, Bool.false_and]; done)
        | ((with_reducible show LCg.CompEnd _ _ _ _ _ _ _ _ _ _ _ _ _ _); (with_reducible rename Fr _ _ _ _ => F9); (with_reducible rename News _ _ _ _ => N9); first | exact LCg.CompEnd.intro F9 N9 _ (by kcf_all) off2 trivial rfl | exact LCg.CompEnd.intro F9 N9 _ (by kcf_all) off2 trivial ⟨rfl, rfl⟩)
    · (with_reducible rename Fr _ _ _ _ => F9)
      (with_reducible rename News _ _ _ _ => N9)
      refine eq_refs_nil (vs := refs.filter (qv rest k0)) (News.isList N9 (by kcf_m)) (News.isList N9 (by kcf_m)) (fun v hv => ?_) (by ktr_units) ?_
      · obtain ⟨i1, hi1⟩ := List.getElem?_of_mem (List.mem_filter.mp hv).1
        obtain ⟨c, ws, kk, r, e1, hmc, hir, hri⟩ := hat i1 v hi1
        exact ⟨c, ws, r, e1, News.isList N9 (by kcf_m), hir⟩
      k_steps
      all_goals first
        | ((with_reducible show LCg.CompEnd _ _ _ _ _ _ _ _ _ _ _ _ _ _); (with_reducible rename Fr _ _ _ _ => F9); (with_reducible rename News _ _ _ _ => N9); first | exact LCg.CompEnd.intro F9 N9 _ (by kcf_all) off3 trivial rfl | exact LCg.CompEnd.intro F9 N9 _ (by kcf_all) off3 trivial ⟨rfl, _, rfl⟩)
        | exact hap0
  · unfold Later
    (with_reducible rename Fr _ _ _ _ => F9)
    (with_reducible rename News _ _ _ _ => N9)
    (with_reducible rename _ ∧ _ ∧ _ ∧ _ ∧ _ ∧ _ ∧ LCg.Off1 _ rest => o9)
    obtain ⟨_, w5, w4, w3, w2, w1, w0⟩ := o9
    refine hQ _ _ _ _ _ ys ys.length F9 (news_sub N9 ?_) (by assumption) hy ⟨w5, w4, w3, w2, w1⟩ fun p hp => Mine.Off1.mem w0 p (hown p hp)
    refine List.forall_mem_cons.mpr ⟨by kcf_m, List.forall_mem_cons.mpr ⟨by kcf_m, List.forall_mem_cons.mpr ⟨by kcf_m, List.forall_mem_cons.mpr ⟨by kcf_m, List.forall_mem_cons.mpr ⟨by kcf_m, List.forall_mem_cons.mpr ⟨by kcf_m, fun p hp => ?_⟩⟩⟩⟩⟩⟩
    have hp2 := hown p hp
    kcf_m

end
section
theorem gen_toks {α : Type} {M : Model} {A : Around} {t : Sem α} {Q : α → Shared → Prop} {E : Value → Shared → Prop} {s : Shared} {hp : Heap} {X : Nat} (h : ∀ tk, wpAny M A t Q E { s with heap := hp, toks := tk }) : wpAny M A t Q E { s with heap := hp, toks := X } := h X
section
variable {prog : Program} {w : World} {A : Around} {E : Value → Shared → Prop} {s : Shared} {h₀ : Heap} {L D : Addr} {m : Str → Option Value} {news : List (Addr × Obj)} {vs : List Value} {ns : List Int} {n : Nat} {k : Int} {u : Tok}
theorem item_0 {value slice : PySem.Expr} {Q : Value → Shared → Prop} (N : News h₀ L s.heap news) (hm : (D, PySem.W.listOf vs.toArray n) ∈ news) (hi : IntsAre vs ns) (h1 : 0 < ns.length) (e : ns.getD 0 0 = k) (h : ∀ t, Q (.int k t) s)
    (hs : subscripted slice false (.ref D) (.int 0 u) = operate [.ref D, .int 0 u] (getItem (.ref D) (.int 0 u)) := by with_unfolding_all rfl) :
    wpAny (model prog w) A (subscriptTail value slice (.ref D) (.int 0 u)) Q E s := by
  refine ksa_sub (k := 0) N hm hi (by decide) (by (first | lia | omega)) (by decide) (fun t => ?_) hs
  rw [show (0 : Int).toNat = 0 from rfl, e]
  exact h t
theorem tup_0 {value slice : PySem.Expr} {Q : Value → Shared → Prop} {C m' F P : Nat} {t1 t2 t3 t4 : Tok} (N : News h₀ L s.heap news) (hm : (D, tup4 C m' F P t1 t2 t3 t4) ∈ news) (h : Q (.int (C : Nat) t1) s)
    (hs : subscripted slice false (.ref D) (.int 0 u) = operate [.ref D, .int 0 u] (getItem (.ref D) (.int 0 u)) := by with_unfolding_all rfl) :
    wpAny (model prog w) A (subscriptTail value slice (.ref D) (.int 0 u)) Q E s := item_tupleT (l := [.int (C : Nat) t1, .int (m' : Nat) t2, .int (F : Nat) t3, .int (P : Nat) t4]) (j := 0) (News.isTup N hm) (by decide) (by decide) rfl rfl h hs
theorem tup_2 {value slice : PySem.Expr} {Q : Value → Shared → Prop} {C m' F P : Nat} {t1 t2 t3 t4 : Tok} (N : News h₀ L s.heap news) (hm : (D, tup4 C m' F P t1 t2 t3 t4) ∈ news) (h : Q (.int (F : Nat) t3) s)
    (hs : subscripted slice false (.ref D) (.int 2 u) = operate [.ref D, .int 2 u] (getItem (.ref D) (.int 2 u)) := by with_unfolding_all rfl) :
    wpAny (model prog w) A (subscriptTail value slice (.ref D) (.int 2 u)) Q E s := item_tupleT (l := [.int (C : Nat) t1, .int (m' : Nat) t2, .int (F : Nat) t3, .int (P : Nat) t4]) (j := 2) (News.isTup N hm) (by decide) (by decide) rfl rfl h hs
theorem tup_3 {value slice : PySem.Expr} {Q : Value → Shared → Prop} {C m' F P : Nat} {t1 t2 t3 t4 : Tok} (N : News h₀ L s.heap news) (hm : (D, tup4 C m' F P t1 t2 t3 t4) ∈ news) (h : Q (.int (P : Nat) t4) s)
    (hs : subscripted slice false (.ref D) (.int 3 u) = operate [.ref D, .int 3 u] (getItem (.ref D) (.int 3 u)) := by with_unfolding_all rfl) :
    wpAny (model prog w) A (subscriptTail value slice (.ref D) (.int 3 u)) Q E s := item_tupleT (l := [.int (C : Nat) t1, .int (m' : Nat) t2, .int (F : Nat) t3, .int (P : Nat) t4]) (j := 3) (News.isTup N hm) (by decide) (by decide) rfl rfl h hs
end
local macro_rules | `(tactic| k_all) => `(tactic| exact OwnOff.ne (by with_reducible assumption) (by kcf_m))
set_option maxHeartbeats 4000000 in
theorem if_st (w : World) (loose : List Str) (mean : ExcName → Option Value) (mg mb : Str → Option Value) :
    ∀ (b1 b2 b3 b4 b5 b6 b7 : Stmt) (rest : List Stmt) (sc : Scope), loopB = b1 :: b2 :: b3 :: b4 :: b5 :: b6 :: b7 :: rest → lawSc = sc →
    ∀ (fa : Addr) (cd : Value) (s₁ : Shared) (h : Heap) (tk : Nat) (f g : Str → Option Value) (z : Array UInt8) (tz tb tc : Tok) (ks' : List Int) (m' : Nat) (o1 o2 o3 o4 o5 : Obj) (v4 : Option Value) (own : List (Addr × Obj)) (a1 a2 : Addr) (C1 m1 F1 P1 C2 m2 F2 P2 bare : Nat) (both : Int) (t1 t2 t3 t4 t1' t2' t3' t4' : Tok) (Q : Flow → Shared → Prop), (Mine.hd.heap_39 w.params).In s₁.heap → Top Mine.hd.view_39 loose mean mg mb s₁.heap →
    KBw.bInts z = ks' → Ord ks' m' → o4.data = .cell v4 →
    OwnOff own [s₁.heap.objs.size + 1 + 1 + 1 + 1 + 1, s₁.heap.objs.size + 1 + 1 + 1 + 1, s₁.heap.objs.size + 1 + 1 + 1, s₁.heap.objs.size + 1 + 1, s₁.heap.objs.size + 1] →
    Fr s₁.heap s₁.heap.objs.size h (fun z' => if z' = Str.ofString "both" then some (.int both tc) else if z' = Str.ofString "bare" then some (.int (bare : Nat) tb) else if z' = Str.ofString "before" then some (.ref a1) else if z' = Str.ofString "after" then some (.ref a2) else if z' = Str.ofString "less" then some (.bytes z tz) else g z') →
    News s₁.heap s₁.heap.objs.size h ((a2, tup4 C2 m2 F2 P2 t1' t2' t3' t4') :: (a1, tup4 C1 m1 F1 P1 t1 t2 t3 t4) :: (s₁.heap.objs.size + 1 + 1 + 1 + 1 + 1, o5) :: (s₁.heap.objs.size + 1 + 1 + 1 + 1, o4) :: (s₁.heap.objs.size + 1 + 1 + 1, o3) :: (s₁.heap.objs.size + 1 + 1, o2) :: (s₁.heap.objs.size + 1, o1) :: own) →
    Later ((@Ne Nat (s₁.heap.objs.size + 1 + 1 + 1 + 1 + 1) a1) ∧ (@Ne Nat (s₁.heap.objs.size + 1 + 1 + 1 + 1) a1) ∧ (@Ne Nat (s₁.heap.objs.size + 1 + 1 + 1) a1) ∧ (@Ne Nat (s₁.heap.objs.size + 1 + 1) a1) ∧ (@Ne Nat (s₁.heap.objs.size + 1) a1)) → Later ((@Ne Nat (s₁.heap.objs.size + 1 + 1 + 1 + 1 + 1) a2) ∧ (@Ne Nat (s₁.heap.objs.size + 1 + 1 + 1 + 1) a2) ∧ (@Ne Nat (s₁.heap.objs.size + 1 + 1 + 1) a2) ∧ (@Ne Nat (s₁.heap.objs.size + 1 + 1) a2) ∧ (@Ne Nat (s₁.heap.objs.size + 1) a2)) → (∀ p ∈ own, p.1 ≠ a1) → (∀ p ∈ own, p.1 ≠ a2) → 
    (0 ≤ both ∧ both ≤ 1) → bare ≤ 2 → (C1 ≤ 8 ∧ F1 ≤ 8 ∧ P1 ≤ 8 ∧ C2 ≤ 8 ∧ F2 ≤ 8 ∧ P2 ≤ 8) → Later ((bare : Int) + both = 0 → C2 = C1 ∧ F2 + 1 = F1 ∧ P2 = P1) →
    (∀ z, z ≠ Str.ofString "apart" → z ≠ Str.ofString "less" → z ≠ Str.ofString "before" → z ≠ Str.ofString "after" → z ≠ Str.ofString "bare" → z ≠ Str.ofString "both" → g z = f z) →
    (∀ h' tk' f' o4' y' ty' ks' m', Fr s₁.heap s₁.heap.objs.size h' f' → News s₁.heap s₁.heap.objs.size h' ((s₁.heap.objs.size + 1 + 1 + 1 + 1 + 1, o5) :: (s₁.heap.objs.size + 1 + 1 + 1 + 1, o4') :: (s₁.heap.objs.size + 1 + 1 + 1, o3) :: (s₁.heap.objs.size + 1 + 1, o2) :: (s₁.heap.objs.size + 1, o1) :: own) →
      o4'.data = .cell (some (.bytes y' ty')) → KBw.bInts y' = ks' → Ord ks' m' → (∀ z, z ≠ Str.ofString "apart" → z ≠ Str.ofString "less" → z ≠ Str.ofString "before" → z ≠ Str.ofString "after" → z ≠ Str.ofString "bare" → z ≠ Str.ofString "both" → f' z = f z) → Q .next { s₁ with heap := h', toks := tk' }) →
    wpAny (model Challenge.rw_ic0001_01.row.toRowW.prog w) (callerA.deeper (envOfC (Str.ofString "law") sc s₁.heap.objs.size fa cd)) (execs rest (envOfC (Str.ofString "law") sc s₁.heap.objs.size fa cd)) Q (fun _ _ => False) { s₁ with heap := h, toks := tk } := by
  w_top off
  k_fill
  k_with_none
  k_with "execs cons" => (k_here; (with_reducible show wpAny _ _ _ _ _ { heap := _, gens := _, drawn := _, toks := _ + 1 + 1, os := _ }); refine gen_toks (fun tk => ?_))
  k_with "execs nil" => (k_here; (with_reducible show wpAny _ _ _ _ _ { heap := _, gens := _, drawn := _, toks := _ + 1 + 1, os := _ }); refine gen_toks (fun tk => ?_))
  k_with "subscriptTail Name Constant ref int" => (k_here; (with_reducible show wpAny _ _ (subscriptTail (Expr.Name _ _) _ (Value.ref _) (Value.int 0 _)) _ _ _); k_dflt (refine' tup_0 ?qw_N ?qw_m ?_ ?qw_hs; (case qw_N => k_asm); (case qw_m => k_mem); (case qw_hs => with_unfolding_all rfl)))
  k_with "subscriptTail Name Constant ref int" => (k_here; (with_reducible show wpAny _ _ (subscriptTail (Expr.Name _ _) _ (Value.ref _) (Value.int 2 _)) _ _ _); k_dflt (refine' tup_2 ?qw_N ?qw_m ?_ ?qw_hs; (case qw_N => k_asm); (case qw_m => k_mem); (case qw_hs => with_unfolding_all rfl)))
  k_with "subscriptTail Name Constant ref int" => (k_here; (with_reducible show wpAny _ _ (subscriptTail (Expr.Name _ _) _ (Value.ref _) (Value.int 3 _)) _ _ _); k_dflt (refine' tup_3 ?qw_N ?qw_m ?_ ?qw_hs; (case qw_N => k_asm); (case qw_m => k_mem); (case qw_hs => with_unfolding_all rfl)))
  k_with "eval Name" => (k_here; (with_reducible show wpAny _ _ (eval (Expr.Name _ _) (envOfC _ _ _ _ _)) _ _ _); k_dflt (refine' nameX_C ?qw_N ?qw_c ?qw_m ?qw_d ?_ ?qw_a ?qw_b; (case qw_a => rfl); (case qw_b => rfl); (case qw_N => with_reducible assumption); (case qw_c => rfl); (case qw_m => kcf_m); (case qw_d => with_reducible assumption)))
  k_with "subscriptTail Name Constant ref int" => (k_here; (with_reducible show wpAny _ _ (subscriptTail (Expr.Name (Str.ofString "apart") _) _ (Value.ref _) (Value.int 0 _)) _ _ _); k_dflt (refine' item_0 ?qw_N ?qw_m ?qw_hi ?qw_h1 ?qw_e ?_ ?qw_hs; (case qw_N => k_asm); (case qw_m => kcf_m); (case qw_hi => with_reducible assumption); (case qw_h1 => with_reducible assumption); (case qw_e => with_reducible assumption); (case qw_hs => with_unfolding_all rfl)); intro _)
  k_with "call ref" => (k_here; (with_reducible show wpAny _ _ (call (Value.ref 68) [Value.bytes _ _, Value.int _ _]) _ _ _); k_dflt (refine' use_tells (less_tells _ _ _ _ _ _ _ _ _ ?qw_hk _ ?qw_ho _ ?qw_h1 ?qw_h2) ?qw_hh ?qw_F ?qw_N ?qw_X ?qw_T ?qw_d ?qw_u ?qw_p ?_; (case qw_hk => with_reducible assumption); (case qw_ho => with_reducible assumption); (case qw_h1 => with_reducible assumption); (case qw_h2 => with_reducible assumption); (case qw_hh => exact rfl); (case qw_F => k_asm); (case qw_N => k_asm); (case qw_X => assumption); (case qw_T => assumption); (case qw_d => ktr_room); (case qw_u => ktr_units); (case qw_p => trivial)); intro r_w h_w k_w F_w N_w hr_w; obtain ⟨y_w, t_w, e9_w, e_w⟩ := hr_w; subst e9_w)
  k_with "call ref" => (k_here; (with_reducible show wpAny _ _ (call (Value.ref 63) [Value.bytes _ _]) _ _ _); k_dflt (refine' told_K ?qw_hk ?qw_ho ?qw_hh ?qw_F ?qw_N ?qw_X ?qw_T ?qw_d ?qw_u ?_; (case qw_hk => with_reducible assumption); (case qw_ho => with_reducible assumption); (case qw_hh => exact rfl); (case qw_F => k_asm); (case qw_N => k_asm); (case qw_X => assumption); (case qw_T => assumption); (case qw_d => ktr_room); (case qw_u => ktr_units)); intro a_w C_w Fd_w P_w t1_w t2_w t3_w t4_w h_w k_w F_w N_w o5_w e5_w c8_w d8_w p8_w; (try simp only [LCg.Off1] at o5_w))
  k_with "call builtin:len" => (k_here; (with_reducible show wpAny _ _ (call (Value.builtin "len") [Value.ref _]) _ _ _); k_dflt (refine' KM.len_K ?qw_N ?qw_m ?qw_s ?qw_f ?_; (case qw_N => k_asm); (case qw_m => kcf_m); (case qw_s => with_reducible assumption); (case qw_f => (first | lia | omega))))
  k_with "eval ListComp" => (k_here; (with_reducible show wpAny _ _ (eval (Expr.ListComp _ [⟨Expr.Name (Str.ofString "end") _, _, [_], _⟩] _ _) _) _ _ _); k_dflt (refine LCt.ListComp_T (F₀ := by k_asm) (by with_unfolding_all rfl) (by decide) (by rfl) (by decide) (by rfl) ?_))
  k_with "execs cons Assign cons" => ((with_reducible show wpAny _ _ (execs (Stmt.Assign [Expr.Name (Str.ofString "here") _] _ _ :: _) _) _ _ _); refine Later.out ?_)
  intro b1 b2 b3 b4 b5 b6 b7 rest' sc hb hs fa cd s₁ h tk f g z tz tb tc ks' m' o1 o2 o3 o4 o5 v4 own a1 a2 C1 m1 F1 P1 C2 m2 F2 P2 bare both t1 t2 t3 t4 t1' t2' t3' t4' Q X T hk ho d4 hoff F N hn1 hn2 hw1 hw2 hboth hbare hsm hkey hg hQn
  dsimp only [loopB, lawB, PySem.Challenge.pw_ic0001_01] at hb
  dsimp only [lawSc, PySem.Challenge.pw_ic0001_01] at hs
  cases hb
  cases hs
  obtain ⟨hbo1, hbo2⟩ := hboth
  obtain ⟨s1, s2, s3, s4, s5, s6⟩ := hsm
  k_steps
  · exfalso
    have hkey9 := hkey.out
    clear hkey
    (first | lia | omega)
  · exfalso
    have hkey9 := hkey.out
    clear hkey
    (first | lia | omega)
  · exfalso
    have hkey9 := hkey.out
    clear hkey
    (first | lia | omega)
  all_goals
    have hn1' := hn1.out
    have hn2' := hn2.out
    have hR : OwnOff own [a1, a2, s₁.heap.objs.size + 1 + 1 + 1 + 1 + 1, s₁.heap.objs.size + 1 + 1 + 1 + 1, s₁.heap.objs.size + 1 + 1 + 1, s₁.heap.objs.size + 1 + 1, s₁.heap.objs.size + 1] := by
      intro p hp b hb
      rcases List.mem_cons.mp hb with rfl | hb
      · exact hw1 p hp
      · rcases List.mem_cons.mp hb with rfl | hb
        · exact hw2 p hp
        · exact hoff p hp b hb
    clear hoff
    k_steps
    (with_reducible rename Fr _ _ _ _ => F9)
    (with_reducible rename News _ _ _ _ => N9)
    (with_reducible rename _ = Data.cell (some (Value.bytes z tz)) => d9)
    refine hQn _ _ _ _ z tz ks' m' F9 (news_sub N9 (by kcf_all)) d9 hk ho fun z' w1 w2 w3 w4 w5 w6 => ?_
    rw [if_neg w6, if_neg w5, if_neg w3, if_neg w4, if_neg w2]
    exact hg z' w1 w2 w3 w4 w5 w6

end
/-- what a tie taken off leaves -/
theorem step_key {ks : List Int} {m tq bareN : Nat} (ho : Ord ks m) (ht : tq < m) (hap : apt ks (tq : Int) = true) {C1 F1 P1 C2 F2 P2 : Nat} (ea1 : C1 = nC ks ∧ F1 = nF ks ∧ P1 = nP ks m) (ea2 : C2 = nC (lessL ks tq) ∧ F2 = nF (lessL ks tq) ∧ P2 = nP (lessL ks tq) (m - 1))
    (hbr : ([2 * (tq : Int), 2 * (tq : Int) + 1].filter fun e => decide (ks.getD e.toNat 0 = e)).length = bareN) (h0 : bareN = 0) (hbo : ¬ (ks.getD (2 * (tq : Int)).toNat 0 = 2 * (tq : Int) + 1 ∧ ks.getD (2 * (tq : Int) + 1).toNat 0 = 2 * (tq : Int))) : C2 = C1 ∧ F2 + 1 = F1 ∧ P2 = P1 := by
  have hl := ho.len
  have e0 := ho.prm.at (i := 2 * tq) (by (first | lia | omega))
  have e1 := ho.prm.at (i := 2 * tq + 1) (by (first | lia | omega))
  rw [show (2 * (tq : Int)).toNat = 2 * tq by (first | lia | omega), show (2 * (tq : Int) + 1).toNat = 2 * tq + 1 by (first | lia | omega), e0, e1] at hbo
  rw [h0] at hbr
  have hnil := List.filter_eq_nil_iff.mp (List.length_eq_zero_iff.mp hbr)
  have b0 := hnil (2 * (tq : Int)) List.mem_cons_self
  have b1 := hnil (2 * (tq : Int) + 1) (List.mem_cons_of_mem _ List.mem_cons_self)
  simp only [decide_eq_true_eq] at b0 b1
  rw [show (2 * (tq : Int)).toNat = 2 * tq by (first | lia | omega), e0] at b0
  rw [show (2 * (tq : Int) + 1).toNat = 2 * tq + 1 by (first | lia | omega), e1] at b1
  have c0 : fn ks (2 * tq) ≠ 2 * tq := fun q => b0 (by (first | lia | omega))
  have c1 : fn ks (2 * tq + 1) ≠ 2 * tq + 1 := fun q => b1 (by (first | lia | omega))
  have c2 : ¬ (fn ks (2 * tq) = 2 * tq + 1 ∧ fn ks (2 * tq + 1) = 2 * tq) := fun q => hbo ⟨by (first | lia | omega), by (first | lia | omega)⟩
  have ha : ¬ Cyc ks.length (fie (fn ks)) (2 * tq) (2 * tq + 1) := by
    have := (@decide_eq_true_iff _ (Classical.propDecidable _)).mp hap
    rwa [Int.toNat_natCast] at this
  obtain ⟨rfl, rfl, rfl⟩ := ea1
  obtain ⟨rfl, rfl, rfl⟩ := ea2
  exact ⟨lessC ho ht c0 c1 c2, lessF ho ht c0 c1 c2 ha, lessP ho ht c0 c1 c2 ha⟩
set_option maxHeartbeats 4000000 in
theorem step_st (w : World) (loose : List Str) (mean : ExcName → Option Value) (mg mb : Str → Option Value) :
    ∀ (b1 b2 : Stmt) (rest : List Stmt) (sc : Scope), loopB = b1 :: b2 :: rest → lawSc = sc →
    ∀ (fa : Addr) (cd : Value) (s₁ : Shared) (h : Heap) (tk : Nat) (f : Str → Option Value) (y : Array UInt8) (ty : Tok) (ks : List Int) (m : Nat) (o1 o2 o3 o4 o5 : Obj) (own : List (Addr × Obj)) (D : Addr) (ys : List Value) (kk : Nat) (Q : Flow → Shared → Prop), (Mine.hd.heap_39 w.params).In s₁.heap → Top Mine.hd.view_39 loose mean mg mb s₁.heap →
    KBw.bInts y = ks → Ord ks m → o4.data = .cell (some (.bytes y ty)) →
    OwnOff own [s₁.heap.objs.size + 1 + 1 + 1 + 1 + 1, s₁.heap.objs.size + 1 + 1 + 1 + 1, s₁.heap.objs.size + 1 + 1 + 1, s₁.heap.objs.size + 1 + 1, s₁.heap.objs.size + 1] →
    Fr s₁.heap s₁.heap.objs.size h (fun z => if z = Str.ofString "apart" then some (.ref D) else f z) → News s₁.heap s₁.heap.objs.size h ((D, PySem.W.listOf ys.toArray kk) :: (s₁.heap.objs.size + 1 + 1 + 1 + 1 + 1, o5) :: (s₁.heap.objs.size + 1 + 1 + 1 + 1, o4) :: (s₁.heap.objs.size + 1 + 1 + 1, o3) :: (s₁.heap.objs.size + 1 + 1, o2) :: (s₁.heap.objs.size + 1, o1) :: own) →
    IntsAre ys ((rangeKs 0 m).filter (apt ks)) →
    (∀ h' tk' f', Fr s₁.heap s₁.heap.objs.size h' f' → News s₁.heap s₁.heap.objs.size h' [(s₁.heap.objs.size + 1 + 1 + 1, o3), (s₁.heap.objs.size + 1, o1)] → (∀ z, z ≠ Str.ofString "apart" → f' z = f z) → Q .brk { s₁ with heap := h', toks := tk' }) →
    (∀ h' tk' f' o4' y' ty' ks' m', Fr s₁.heap s₁.heap.objs.size h' f' → News s₁.heap s₁.heap.objs.size h' ((s₁.heap.objs.size + 1 + 1 + 1 + 1 + 1, o5) :: (s₁.heap.objs.size + 1 + 1 + 1 + 1, o4') :: (s₁.heap.objs.size + 1 + 1 + 1, o3) :: (s₁.heap.objs.size + 1 + 1, o2) :: (s₁.heap.objs.size + 1, o1) :: own) →
      o4'.data = .cell (some (.bytes y' ty')) → KBw.bInts y' = ks' → Ord ks' m' → (∀ z, z ≠ Str.ofString "apart" → z ≠ Str.ofString "less" → z ≠ Str.ofString "before" → z ≠ Str.ofString "after" → z ≠ Str.ofString "bare" → z ≠ Str.ofString "both" → f' z = f z) → Q .next { s₁ with heap := h', toks := tk' }) →
    wpAny (model Challenge.rw_ic0001_01.row.toRowW.prog w) (callerA.deeper (envOfC (Str.ofString "law") sc s₁.heap.objs.size fa cd)) (execs rest (envOfC (Str.ofString "law") sc s₁.heap.objs.size fa cd)) Q (fun _ _ => False) { s₁ with heap := h, toks := tk } := by
  w_top off
  k_fill
  k_with_none
  k_with "execs cons" => (k_here; (with_reducible show wpAny _ _ _ _ _ { heap := _, gens := _, drawn := _, toks := _ + 1 + 1, os := _ }); refine gen_toks (fun tk => ?_))
  k_with "execs nil" => (k_here; (with_reducible show wpAny _ _ _ _ _ { heap := _, gens := _, drawn := _, toks := _ + 1 + 1, os := _ }); refine gen_toks (fun tk => ?_))
  k_with "eval Name" => (k_here; (with_reducible show wpAny _ _ (eval (Expr.Name _ _) (envOfC _ _ _ _ _)) _ _ _); k_dflt (refine' nameX_C ?qw_N ?qw_c ?qw_m ?qw_d ?_ ?qw_a ?qw_b; (case qw_a => rfl); (case qw_b => rfl); (case qw_N => with_reducible assumption); (case qw_c => rfl); (case qw_m => kcf_m); (case qw_d => with_reducible assumption)))
  k_with "subscriptTail Name Constant ref int" => (k_here; (with_reducible show wpAny _ _ (subscriptTail (Expr.Name (Str.ofString "apart") _) _ (Value.ref _) (Value.int 0 _)) _ _ _); k_dflt (refine' item_0 ?qw_N ?qw_m ?qw_hi ?qw_h1 ?qw_e ?_ ?qw_hs; (case qw_N => k_asm); (case qw_m => kcf_m); (case qw_hi => with_reducible assumption); (case qw_h1 => with_reducible assumption); (case qw_e => with_reducible assumption); (case qw_hs => with_unfolding_all rfl)); intro _)
  k_with "call ref" => (k_here; (with_reducible show wpAny _ _ (call (Value.ref 68) [Value.bytes _ _, Value.int _ _]) _ _ _); refine Later.out ?_)
  k_with "call ref" => (k_here; (with_reducible show wpAny _ _ (call (Value.ref 63) [Value.bytes _ _]) _ _ _); refine Later.out ?_)
  k_with "call builtin:len" => (k_here; (with_reducible show wpAny _ _ (call (Value.builtin "len") [Value.ref _]) _ _ _); k_dflt (refine' KM.len_K ?qw_N ?qw_m ?qw_s ?qw_f ?_; (case qw_N => k_asm); (case qw_m => kcf_m); (case qw_s => with_reducible assumption); (case qw_f => (first | lia | omega))))
  k_with "eval ListComp" => (k_here; (with_reducible show wpAny _ _ (eval (Expr.ListComp _ [⟨Expr.Name (Str.ofString "end") _, _, [_], _⟩] _ _) _) _ _ _); k_dflt (refine LCt.ListComp_T (F₀ := by k_asm) (by with_unfolding_all rfl) (by decide) (by rfl) (by decide) (by rfl) ?_))
  k_with "execs cons If" => ((with_reducible show wpAny _ _ (execs (Stmt.If (Expr.BoolOp BoolOp.And _ _) _ _ _ :: _) _) _ _ _); refine Later.out ?_)
  k_with "execs cons If cons" => ((with_reducible show wpAny _ _ (execs (Stmt.If (Expr.BoolOp BoolOp.And _ _) _ _ _ :: _) _) _ _ _); refine Later.out ?_)
  intro b1 b2 rest' sc hb hs fa cd s₁ h tk f y ty ks m o1 o2 o3 o4 o5 own D ys kk Q X T hk ho d4 hoff F N hy hQb hQn
  dsimp only [loopB, lawB, PySem.Challenge.pw_ic0001_01] at hb
  dsimp only [lawSc, PySem.Challenge.pw_ic0001_01] at hs
  cases hb
  cases hs
  have h400 : ks.length ≤ 400 := by have := ho.len; have := ho.few; (first | lia | omega)
  have hlen := ho.len
  have hmem : ∀ k ∈ (rangeKs 0 m).filter (apt ks), 0 ≤ k ∧ k < m ∧ apt ks k = true := fun k hk => by
    have h1 := List.mem_filter.mp hk
    have h2 := mem_rangeKs h1.1
    exact ⟨h2.1, by (first | lia | omega), h1.2⟩
  generalize (rangeKs 0 m).filter (apt ks) = LL at hy hmem
  have hll := hy.length
  rcases Nat.eq_zero_or_pos LL.length with hz | hz
  · obtain rfl := List.length_eq_zero_iff.mp hz
    k_steps
    (with_reducible rename Fr _ _ _ _ => F9)
    (with_reducible rename News _ _ _ _ => N9)
    exact hQb _ _ _ F9 (news_sub N9 (by kcf_all)) fun z h1 => if_neg h1
  obtain ⟨kq, hkq⟩ : ∃ kq, LL.getD 0 0 = kq := ⟨_, rfl⟩
  have hq1 : kq ∈ LL := by rw [← hkq, List.getD_eq_getElem?_getD, List.getElem?_eq_getElem hz]; exact List.getElem_mem _
  obtain ⟨hq2, hq3, hq4⟩ := hmem kq hq1
  obtain ⟨tq, rfl⟩ : ∃ tq : Nat, kq = (tq : Int) := ⟨kq.toNat, by (first | lia | omega)⟩
  have htq : tq < m := by (first | lia | omega)
  rcases Nat.lt_or_ge m 2 with hm2 | hm2
  · k_steps
    · exfalso
      (with_reducible rename decide _ = true => e9)
      rw [of_decide_eq_true e9] at hz
      exact Nat.lt_irrefl _ hz
    · (with_reducible rename Fr _ _ _ _ => F9)
      (with_reducible rename News _ _ _ _ => N9)
      exact hQb _ _ _ F9 (news_sub N9 (by kcf_all)) fun z h1 => if_neg h1
    all_goals (exfalso; (first | lia | omega))
  have hol := ord_less ho htq hm2
  k_steps
  · exfalso
    (with_reducible rename decide _ = true => e9)
    rw [of_decide_eq_true e9] at hz
    exact Nat.lt_irrefl _ hz
  unfold Later
  (with_reducible rename Fr _ _ _ _ => F9)
  (with_reducible rename News _ _ _ _ => N9)
  refine use_tells (less_tells _ _ _ _ _ _ _ _ _ hk _ ho tq htq hm2) rfl F9 N9 X T (by ktr_room) (by ktr_units) trivial ?_
  rintro r1 h1 k1 F1 N1 ⟨z, tz, rfl, hzz⟩
  clear F9 N9
  k_steps
  unfold Later
  (with_reducible rename Fr _ _ _ _ => F9)
  (with_reducible rename News _ _ _ _ => N9)
  refine told_K hk ho rfl F9 N9 X T (by ktr_room) (by ktr_units) ?_
  intro a1 C1 F1 P1 t1 t2 t3 t4 h3 k3 F3 N3 oa1 ea1 c1 f1 p1
  clear F9 N9
  k_steps
  unfold Later
  (with_reducible rename Fr _ _ _ _ => F9)
  (with_reducible rename News _ _ _ _ => N9)
  refine told_K hzz hol rfl F9 N9 X T (by ktr_room) (by ktr_units) ?_
  intro a2 C2 F2 P2 t1' t2' t3' t4' h4 k4 F4 N4 oa2 ea2 c2 f2 p2
  clear F9 N9
  k_with "CompSrcT" => k_dflt (refine src_filt (ns := [2 * (tq : Int), 2 * (tq : Int) + 1]) (fun e => decide (ks.getD e.toNat 0 = e)) (by rfl) (by k_asm) (by k_asm) (by kcf_m) (.cons _ _ (.cons _ _ .nil)) (by rw [PySem.sizeLine_eq]; show 2 ≤ _; (first | lia | omega)) (fun gh => Later.out ?_) (fun gh ys2 hy2 hl2 D2 h2 tk2 F2 N2 o2' => Later.out ?_))
  k_steps
  · unfold Later TurnF
    intro k1 t1 I1 oI1 C1 oC1 D1 m3 ys1 l1 hp1 tk1 E1 hk1 hI1 hC1 hx1 F1 N1 off1 ne1 hM1
    have off2 := off1
    have hk9 : 0 ≤ k1 ∧ k1 < ks.length := by
      rcases List.mem_cons.mp hk1 with rfl | hk1
      · (first | lia | omega)
      · rw [List.mem_singleton.mp hk1]; (first | lia | omega)
    obtain ⟨hk91, hk92⟩ := hk9
    k_steps
    all_goals first
      | ((with_reducible show LCg.CompEnd _ _ _ _ _ _ _ _ _ _ _ _ _ _); (with_reducible rename Fr _ _ _ _ => F9); (with_reducible rename News _ _ _ _ => N9); first | exact LCg.CompEnd.intro F9 N9 _ (by kcf_all) off2 (.inr ⟨_, by kcf_m, rfl, _, rfl⟩) rfl | exact LCg.CompEnd.intro F9 N9 _ (by kcf_all) off2 (.inr ⟨_, by kcf_m, rfl, _, rfl⟩) ⟨rfl, _, rfl⟩)
  · unfold Later
    have hsz : ys2.toArray.size = ([2 * (tq : Int), 2 * (tq : Int) + 1].filter fun e => decide (ks.getD e.toNat 0 = e)).length := by rw [List.size_toArray]; exact hy2.length
    have hb2 : ([2 * (tq : Int), 2 * (tq : Int) + 1].filter fun e => decide (ks.getD e.toNat 0 = e)).length ≤ 2 := List.length_filter_le _ _
    generalize hbr : ([2 * (tq : Int), 2 * (tq : Int) + 1].filter fun e => decide (ks.getD e.toNat 0 = e)).length = bareN at hsz hb2
    clear hmem hQb
    k_steps
    · unfold Later
      (with_reducible rename Fr _ _ _ _ => F9)
      (with_reducible rename News _ _ _ _ => N9)
      refine if_st w loose mean mg mb _ _ _ _ _ _ _ _ _ rfl rfl fa cd s₁ _ _ f (fun z => if z = Str.ofString "apart" then some (.ref D) else f z) z tz _ _ (lessL ks tq) (m - 1) o1 o2 o3 o4 o5 _ own a1 a2 C1 m F1 P1 C2 (m - 1) F2 P2 bareN _ t1 t2 t3 t4 t1' t2' t3' t4' Q X T hzz hol d4 hoff F9 (news_sub N9 (by kcf_all)) ?_ ?_ ?_ ?_ ?_ hb2 ⟨c1, f1, p1, c2, f2, p2⟩ ?_ ?_ hQn
      · have w := Mine.Off1.mem oa1
        exact ⟨w (_, o5) (by kcf_m), w (_, o4) (by kcf_m), w (_, o3) (by kcf_m), w (_, o2) (by kcf_m), w (_, o1) (by kcf_m)⟩
      · have w := Mine.Off1.mem oa2
        exact ⟨w (_, o5) (by kcf_m), w (_, o4) (by kcf_m), w (_, o3) (by kcf_m), w (_, o2) (by kcf_m), w (_, o1) (by kcf_m)⟩
      · exact fun p hp => Mine.Off1.mem oa1 p (by kcf_m)
      · exact fun p hp => Mine.Off1.mem oa2 p (by kcf_m)
      · constructor <;> split <;> (first | lia | omega)
      · intro hz9
        refine step_key ho htq hq4 ea1 ea2 hbr ?_ ?_
        · split at hz9 <;> (first | lia | omega)
        · rintro ⟨_, q⟩
          rw [if_pos (beq_iff_eq.mpr q)] at hz9
          (first | lia | omega)
      · exact fun z' w1 _ _ _ _ _ => if_neg w1
    · unfold Later
      (with_reducible rename Fr _ _ _ _ => F9)
      (with_reducible rename News _ _ _ _ => N9)
      refine if_st w loose mean mg mb _ _ _ _ _ _ _ _ _ rfl rfl fa cd s₁ _ _ f (fun z => if z = Str.ofString "apart" then some (.ref D) else f z) z tz _ _ (lessL ks tq) (m - 1) o1 o2 o3 o4 o5 _ own a1 a2 C1 m F1 P1 C2 (m - 1) F2 P2 bareN _ t1 t2 t3 t4 t1' t2' t3' t4' Q X T hzz hol d4 hoff F9 (news_sub N9 (by kcf_all)) ?_ ?_ ?_ ?_ ?_ hb2 ⟨c1, f1, p1, c2, f2, p2⟩ ?_ ?_ hQn
      · have w := Mine.Off1.mem oa1
        exact ⟨w (_, o5) (by kcf_m), w (_, o4) (by kcf_m), w (_, o3) (by kcf_m), w (_, o2) (by kcf_m), w (_, o1) (by kcf_m)⟩
      · have w := Mine.Off1.mem oa2
        exact ⟨w (_, o5) (by kcf_m), w (_, o4) (by kcf_m), w (_, o3) (by kcf_m), w (_, o2) (by kcf_m), w (_, o1) (by kcf_m)⟩
      · exact fun p hp => Mine.Off1.mem oa1 p (by kcf_m)
      · exact fun p hp => Mine.Off1.mem oa2 p (by kcf_m)
      · constructor <;> split <;> (first | lia | omega)
      · intro hz9
        refine step_key ho htq hq4 ea1 ea2 hbr ?_ ?_
        · split at hz9 <;> (first | lia | omega)
        · rintro ⟨q, _⟩
          rw [if_pos (beq_iff_eq.mpr q)] at hz9
          (first | lia | omega)
      · exact fun z' w1 _ _ _ _ _ => if_neg w1

set_option maxHeartbeats 2000000 in
theorem rest14 (w : World) (loose : List Str) (mean : ExcName → Option Value) (mg mb : Str → Option Value) :
    ∀ (st1 st2 st3 st4 st5 st6 st7 st8 st9 st10 st11 st12 st13 : Stmt) (rest : List Stmt) (sc : Scope), lawB = st1 :: st2 :: st3 :: st4 :: st5 :: st6 :: st7 :: st8 :: st9 :: st10 :: st11 :: st12 :: st13 :: rest → lawSc = sc →
    ∀ (fa : Addr) (cd : Value) (s₁ : Shared) (h : Heap) (tk : Nat) (f : Str → Option Value) (x : Array UInt8) (t ut u1 u2 u3 u4 : Tok) (ks : List Int) (m : Nat) (o1 o2 o3 o4 o5 : Obj) (v4 v5 : Option Value), (Mine.hd.heap_39 w.params).In s₁.heap → Top Mine.hd.view_39 loose mean mg mb s₁.heap →
    KBw.bInts x = ks → Ord ks m →
    f (Str.ofString "corners") = some (.int (nC ks : Nat) u1) → f (Str.ofString "many") = some (.int (m : Nat) u2) → f (Str.ofString "fields") = some (.int (nF ks : Nat) u3) → f (Str.ofString "pieces") = some (.int (nP ks m : Nat) u4) →
    o1.data = .cell (some (.int (m : Nat) ut)) → o3.data = .cell (some (.bytes x t)) → o4.data = .cell v4 → o5.data = .cell v5 →
    Fr s₁.heap s₁.heap.objs.size h f → News s₁.heap s₁.heap.objs.size h [(s₁.heap.objs.size + 1 + 1 + 1 + 1 + 1, o5), (s₁.heap.objs.size + 1 + 1 + 1 + 1, o4), (s₁.heap.objs.size + 1 + 1 + 1, o3), (s₁.heap.objs.size + 1 + 1, o2), (s₁.heap.objs.size + 1, o1)] →
    wpAny (model Challenge.rw_ic0001_01.row.toRowW.prog w) (callerA.deeper (envOfC (Str.ofString "law") sc s₁.heap.objs.size fa cd)) (execs rest (envOfC (Str.ofString "law") sc s₁.heap.objs.size fa cd)) (fun fl s' => LawOk s₁ (retOf fl) s') (fun _ _ => False) { s₁ with heap := h, toks := tk } := by
  w_top off
  k_fill
  k_with_none
  k_with "execs cons" => (k_here; (with_reducible show wpAny _ _ _ _ _ { heap := _, gens := _, drawn := _, toks := _ + 1 + 1, os := _ }); refine gen_toks (fun tk => ?_))
  k_with "execs nil" => (k_here; (with_reducible show wpAny _ _ _ _ _ { heap := _, gens := _, drawn := _, toks := _ + 1 + 1, os := _ }); refine gen_toks (fun tk => ?_))
  k_with "eval Name" => (k_here; (with_reducible show wpAny _ _ (eval (Expr.Name _ _) (envOfC _ _ _ _ _)) _ _ _); k_dflt (refine' nameX_C ?qw_N ?qw_c ?qw_m ?qw_d ?_ ?qw_a ?qw_b; (case qw_a => rfl); (case qw_b => rfl); (case qw_N => with_reducible assumption); (case qw_c => rfl); (case qw_m => kcf_m); (case qw_d => with_reducible assumption)))
  k_with "execs cons Assign cons" => ((with_reducible show wpAny _ _ (execs (Stmt.Assign [Expr.Name (Str.ofString "changed") _] _ _ :: _) _) _ _ _); refine Later.out ?_)
  intro st1 st2 st3 st4 st5 st6 st7 st8 st9 st10 st11 st12 st13 rest sc hb hs fa cd s₁ h tk f x t ut u1 u2 u3 u4 ks m o1 o2 o3 o4 o5 v4 v5 X T hk ho f1 f2 f3 f4 d1 d3 d4 d5 F N
  dsimp only [lawB, PySem.Challenge.pw_ic0001_01] at hb
  dsimp only [lawSc, PySem.Challenge.pw_ic0001_01] at hs
  cases hb
  cases hs
  k_with "pyIter ref" => k_dflt ((with_reducible rename Fr _ _ _ _ => F9); (with_reducible rename News _ _ _ _ => N9); (refine' iter_rangeG (n := m) (fun i m₁ nx => ∃ (o5' o4' : Obj) (v5 : Option Value) (y : Array UInt8) (ty : Tok) (ks' : List Int) (m' : Nat), nx = [(s₁.heap.objs.size + 1 + 1 + 1 + 1 + 1, o5'), (s₁.heap.objs.size + 1 + 1 + 1 + 1, o4'), (s₁.heap.objs.size + 1 + 1 + 1, o3), (s₁.heap.objs.size + 1 + 1, o2), (s₁.heap.objs.size + 1, o1)] ∧ o5'.data = .cell v5 ∧ o4'.data = .cell (some (.bytes y ty)) ∧ KBw.bInts y = ks' ∧ Ord ks' m' ∧
    m₁ (Str.ofString "corners") = some (.int (nC ks : Nat) u1) ∧ m₁ (Str.ofString "many") = some (.int (m : Nat) u2) ∧ m₁ (Str.ofString "fields") = some (.int (nF ks : Nat) u3) ∧ m₁ (Str.ofString "pieces") = some (.int (nP ks m : Nat) u4)) rfl ?hr ?hs ?hn F9 N9 ?hJ (Later.out ?turn) (Later.out ?done)); (case hr => k_asm); (case hs => exact small_one (by have := ho.few; (first | lia | omega)) (by have := ho.few; (first | lia | omega)) (by have := ho.few; (first | lia | omega)) (by have := ho.few; (first | lia | omega))); (case hn => exact (rangeSize_nat _ _).trans (by (first | lia | omega))); (case hJ => exact ⟨_, _, _, _, _, _, _, rfl, d5, by assumption, hk, ho, f1, f2, f3, f4⟩))
  k_steps
  · unfold Later
    rintro i t' m₁ nx h' tk' own hi hoff ⟨o5', o4', v5', y, ty, ks', m', rfl, d5', d4', hk', ho', q1, q2, q3, q4⟩ F' N'
    replace F' : Fr s₁.heap s₁.heap.objs.size h' (fun y => if y = Str.ofString "turn" then some (.int (0 + (i : Int)) t') else m₁ y) := F'
    replace hoff : OwnOff own [s₁.heap.objs.size + 1 + 1 + 1 + 1 + 1, s₁.heap.objs.size + 1 + 1 + 1 + 1, s₁.heap.objs.size + 1 + 1 + 1, s₁.heap.objs.size + 1 + 1, s₁.heap.objs.size + 1] := hoff
    refine apart_st w loose mean mg mb _ _ _ _ rfl rfl fa cd s₁ h' tk' _ y ty ks' m' o1 o2 o3 o4' o5' v5' own _ _ X T hk' ho' d4' d5' hoff F' N' ?_
    intro h2 tk2 o5'' v5'' D ys kk F2 N2 d5'' hy hD hDo
    refine step_st w loose mean mg mb _ _ _ _ rfl rfl fa cd s₁ h2 tk2 _ y ty ks' m' o1 o2 o3 o4' o5'' own D ys kk _ X T hk' ho' d4' hoff F2 N2 hy ?_ ?_
    · intro h3 tk3 f' F3 N3 hf
      show wpAny _ _ (execs _ _) _ _ _
      refine rest16 w loose mean mg mb _ _ _ _ _ _ _ _ _ _ _ _ _ _ _ _ _ rfl rfl fa cd s₁ _ _ _ x t ut u1 u2 u3 u4 ks m o1 o3 X T hk ho ?_ ?_ ?_ ?_ d1 d3 F3 N3
      · exact (hf _ (by decide)).trans ((if_neg (by decide)).trans q1)
      · exact (hf _ (by decide)).trans ((if_neg (by decide)).trans q2)
      · exact (hf _ (by decide)).trans ((if_neg (by decide)).trans q3)
      · exact (hf _ (by decide)).trans ((if_neg (by decide)).trans q4)
    · intro h3 tk3 f' o4'' y' ty' ks'' m'' F3 N3 d4'' hk'' ho'' hf
      refine InvEndG.intro (nx := [(s₁.heap.objs.size + 1 + 1 + 1 + 1 + 1, o5''), (s₁.heap.objs.size + 1 + 1 + 1 + 1, o4''), (s₁.heap.objs.size + 1 + 1 + 1, o3), (s₁.heap.objs.size + 1 + 1, o2), (s₁.heap.objs.size + 1, o1)]) F3 N3 ⟨o5'', o4'', v5'', y', ty', ks'', m'', rfl, d5'', d4'', hk'', ho'', ?_, ?_, ?_, ?_⟩ hoff (by kcf_all) fun p hp => by kcf_m
      · exact (hf _ (by decide) (by decide) (by decide) (by decide) (by decide) (by decide)).trans ((if_neg (by decide)).trans q1)
      · exact (hf _ (by decide) (by decide) (by decide) (by decide) (by decide) (by decide)).trans ((if_neg (by decide)).trans q2)
      · exact (hf _ (by decide) (by decide) (by decide) (by decide) (by decide) (by decide)).trans ((if_neg (by decide)).trans q3)
      · exact (hf _ (by decide) (by decide) (by decide) (by decide) (by decide) (by decide)).trans ((if_neg (by decide)).trans q4)
  · unfold Later
    rintro m₁ nx h' tk' ⟨o5', o4', v5', y, ty, ks', m', rfl, d5', d4', hk', ho', q1, q2, q3, q4⟩ F' N'
    k_steps
    unfold Later
    exact rest16 w loose mean mg mb _ _ _ _ _ _ _ _ _ _ _ _ _ _ _ _ _ rfl rfl fa cd s₁ _ _ _ x t ut u1 u2 u3 u4 ks m o1 o3 X T hk ho q1 q2 q3 q4 d1 d3 F' (news_sub N' (by kcf_all))

theorem use_swap {prog : Program} {w : World} {K : Frag} {p : Program} {loose : List Str} {mean : ExcName → Option Value} {mg mb : Str → Option Value} {f : Value} {d u : Nat} {vs : List Value} {out : List Int}
    {A : Around} {h₀ : Heap} {L : Addr} {m : Str → Option Value} {news : List (Addr × Obj)} {s : Shared} {Q E : Value → Shared → Prop}
    (C : ∀ (dp un : Nat) (fr : Option (List Env)) (gd : Option (List Code)) (s : Shared) (Q E : Value → Shared → Prop), K.In s.heap → Top p loose mean mg mb s.heap → dp + d < recursionLimit → un + u < cLine →
      (∀ y t' h' tk', Ext s.heap h' → KBw.bInts y = out → Q (.bytes y t') { s with heap := h', toks := tk' }) → wpP (model prog w) (around dp un fr gd) (call f vs) Q E s) (hh : A.handled = none)
    (F : Fr h₀ L s.heap m) (N : News h₀ L s.heap news) (X : K.In h₀) (T : Top p loose mean mg mb h₀) (hd : A.depth + d < recursionLimit) (hu : A.units + u < cLine)
    (h : ∀ y t' h' k, Fr h₀ L h' m → News h₀ L h' news → KBw.bInts y = out → Q (.bytes y t') { s with heap := h', toks := k }) : wpP (model prog w) A (call f vs) Q E s := by
  obtain ⟨hd', dp, fr, gd, un⟩ := A
  cases hh
  exact C dp un fr gd s Q E (X.keeps F.keep) (T.keeps F.keep) hd hu fun y t' h' tk' keep e => h y t' h' tk' (F.keptAll keep) (N.grown keep) e
theorem bInts_inj {y b : Array UInt8} (h : KBw.bInts y = KBw.bInts b) : y = b := by
  have e : ∀ (l l' : List UInt8), l.map (fun c => (c.toNat : Int)) = l'.map (fun c => (c.toNat : Int)) → l = l' := by
    intro l
    induction l with
    | nil => intro l' h; cases l' with
      | nil => rfl
      | cons _ _ => simp at h
    | cons c l ih => intro l' h; cases l' with
      | nil => simp at h
      | cons c' l' =>
        simp only [List.map_cons, List.cons.injEq] at h
        rw [ih l' h.2, (UInt8.toNat_inj.mp (Int.ofNat_inj.mp h.1) : c = c')]
  exact Array.toList_inj.mp (e _ _ h)
theorem no_bytes {y b : Array UInt8} {l : List Int} (h : (y.toList != b.toList) = true) (hy : KBw.bInts y = l) (hb : KBw.bInts b = l) : False := by
  rw [bInts_inj (hy.trans hb.symm)] at h
  simp at h

set_option maxHeartbeats 4000000 in
theorem rest10 (w : World) (loose : List Str) (mean : ExcName → Option Value) (mg mb : Str → Option Value) :
    ∀ (st1 st2 st3 st4 st5 st6 st7 st8 st9 : Stmt) (rest : List Stmt) (sc : Scope), lawB = st1 :: st2 :: st3 :: st4 :: st5 :: st6 :: st7 :: st8 :: st9 :: rest → lawSc = sc →
    ∀ (fa : Addr) (cd : Value) (s₁ : Shared) (h : Heap) (tk : Nat) (f : Str → Option Value) (x : Array UInt8) (t ut u1 u2 u3 u4 : Tok) (ks : List Int) (m : Nat) (o1 o2 o3 o4 o5 : Obj) (v4 v5 : Option Value) (Dd : Addr) (dv : List Value) (kd : Nat), (Mine.hd.heap_39 w.params).In s₁.heap → Top Mine.hd.view_39 loose mean mg mb s₁.heap →
    KBw.bInts x = ks → Ord ks m →
    f (Str.ofString "corners") = some (.int (nC ks : Nat) u1) → f (Str.ofString "many") = some (.int (m : Nat) u2) → f (Str.ofString "fields") = some (.int (nF ks : Nat) u3) → f (Str.ofString "pieces") = some (.int (nP ks m : Nat) u4) →
    o1.data = .cell (some (.int (m : Nat) ut)) → o2.data = .cell (some (.ref Dd)) → o3.data = .cell (some (.bytes x t)) → o4.data = .cell v4 → o5.data = .cell v5 → IntsAre dv ks →
    Fr s₁.heap s₁.heap.objs.size h f → News s₁.heap s₁.heap.objs.size h [(Dd, PySem.W.listOf dv.toArray kd), (s₁.heap.objs.size + 1 + 1 + 1 + 1 + 1, o5), (s₁.heap.objs.size + 1 + 1 + 1 + 1, o4), (s₁.heap.objs.size + 1 + 1 + 1, o3), (s₁.heap.objs.size + 1 + 1, o2), (s₁.heap.objs.size + 1, o1)] →
    wpP (model Challenge.rw_ic0001_01.row.toRowW.prog w) (callerA.deeper (envOfC (Str.ofString "law") sc s₁.heap.objs.size fa cd)) (execs rest (envOfC (Str.ofString "law") sc s₁.heap.objs.size fa cd)) (fun fl s' => LawOk s₁ (retOf fl) s') (fun _ _ => False) { s₁ with heap := h, toks := tk } := by
  w_top off
  k_fill
  k_with_none
  k_with "execs cons" => (k_here; (with_reducible show wpAny _ _ _ _ _ { heap := _, gens := _, drawn := _, toks := _ + 1 + 1, os := _ }); refine gen_toks (fun tk => ?_))
  k_with "execs nil" => (k_here; (with_reducible show wpAny _ _ _ _ _ { heap := _, gens := _, drawn := _, toks := _ + 1 + 1, os := _ }); refine gen_toks (fun tk => ?_))
  k_with "eval Name" => (k_here; (with_reducible show wpAny _ _ (eval (Expr.Name _ _) (envOfC _ _ _ _ _)) _ _ _); k_dflt (refine' nameX_C ?qw_N ?qw_c ?qw_m ?qw_d ?_ ?qw_a ?qw_b; (case qw_a => rfl); (case qw_b => rfl); (case qw_N => with_reducible assumption); (case qw_c => rfl); (case qw_m => kcf_m); (case qw_d => with_reducible assumption)))
  k_with "call ref" => (k_here; (with_reducible show wpAny _ _ (call (Value.ref 63) [Value.bytes _ _]) _ _ _); refine Later.out ?_)
  k_with "call type:bytes" => (k_here; (with_reducible show wpAny _ _ (call (Value.type "bytes") [Value.ref _]) _ _ _); refine Later.out ?_)
  k_with "call builtin:list.index" => refine Later.out ?_
  k_with "eval ListComp" => (k_here; (with_reducible show wpAny _ _ (eval (Expr.ListComp (Expr.Call _ _ _ _) [⟨Expr.Name (Str.ofString "octet") _, _, [], _⟩] _ _) _) _ _ _); k_dflt (refine LCg.ListComp_U (F₀ := by k_asm) (by with_unfolding_all rfl) (by decide) (by rfl) (by decide) (by rfl) ?_))
  k_with "CompEnd" => (refine' LCg.CompEnd.intro ?qw_ceF ?qw_ceN _ ?qw_ceS ?qw_ceO ?qw_ceR ?_; (case qw_ceO => assumption); (case qw_ceF => k_asm); (case qw_ceN => k_asm); (case qw_ceS => kcf_all); (case qw_ceR => lcg_src))
  intro st1 st2 st3 st4 st5 st6 st7 st8 st9 rest sc hb hs fa cd s₁ h tk f x t ut u1 u2 u3 u4 ks m o1 o2 o3 o4 o5 v4 v5 Dd dv kd X T hk ho f1 f2 f3 f4 d1 d2 d3 d4 d5 hdv F N
  dsimp only [lawB, PySem.Challenge.pw_ic0001_01] at hb
  dsimp only [lawSc, PySem.Challenge.pw_ic0001_01] at hs
  cases hb
  cases hs
  have F8 := frame1 (frame1 (frame1 (frame1 F f1) (a := Str.ofString "many") (u := .int (m : Nat) u2) ((if_neg (by decide)).trans f2)) (a := Str.ofString "fields") (u := .int (nF ks : Nat) u3) ((if_neg (by decide)).trans ((if_neg (by decide)).trans f3))) (a := Str.ofString "pieces") (u := .int (nP ks m : Nat) u4) ((if_neg (by decide)).trans ((if_neg (by decide)).trans ((if_neg (by decide)).trans f4)))
  clear F
  have hm4 : m ≤ 400 := by have := ho.few; (first | lia | omega)
  have hlen := ho.len
  have h400 : ks.length ≤ 400 := by have := ho.few; (first | lia | omega)
  refine execs_anyP ?_
  k_with "CompSrc" => k_dflt (refine src_mapR (n := ks.length) (fun k => ((ks.idxOf k : Nat) : Int)) (by rfl) (by k_asm) (by k_asm) (by assumption) (small_one (by (first | lia | omega)) (by (first | lia | omega)) (by (first | lia | omega)) (by (first | lia | omega))) ((rangeSize_nat _ _).trans (by (first | lia | omega))) (by rw [PySem.sizeLine_eq]; (first | lia | omega)) (fun gh => Later.out ?_) (fun gh ys hy => ?_))
  k_steps
  · unfold Later TurnM
    intro k1 t1 I1 oI1 C1 oC1 D1 m3 ys1 hp1 tk1 E1 hk1 hC1 hx1 F1 N1 off1 ne1 hM1
    have hk0 := (mem_rangeKs hk1).1
    have hk2 := (mem_rangeKs hk1).2
    have hmem : k1 ∈ ks := by
      have := ho.prm.mem (e := k1.toNat) (by (first | lia | omega))
      rwa [show ((k1.toNat : Nat) : Int) = k1 by (first | lia | omega)] at this
    k_steps
    unfold Later
    (with_reducible rename News _ _ _ _ => N9)
    refine index_L N9 (by kcf_m) hdv hmem (by (first | lia | omega)) (fun _ => ?_)
    k_steps
  · unfold Later
    (with_reducible rename Fr _ _ _ _ => F9)
    (with_reducible rename News _ _ _ _ => N9)
    have er : (rangeKs 0 ks.length).map (fun k => ((ks.idxOf k : Nat) : Int)) = invL ks := by
      unfold rangeKs invL
      rw [List.map_map]
      refine List.map_congr_left fun k _ => ?_
      show ((ks.idxOf ((0 : Int) + (k : Int)) : Nat) : Int) = _
      rw [Int.zero_add]
    rw [er] at hy
    refine make_B F9 N9 rfl (News.isList N9 (List.Mem.head _)) hy ?_ (by rw [inv_len]; (first | lia | omega)) ?_
    · intro z hz
      obtain ⟨i, hi, rfl⟩ := List.mem_map.mp hz
      have := (inv_one ho (List.mem_range.mp hi)).1
      have := ho.few
      (first | lia | omega)
    intro h9 b9 t9 k9 F7 N7 e9
    clear F9 N9
    k_steps
    show wpP _ _ (execs _ _) _ _ _
    refine execs_anyP ?_
    k_steps
    unfold Later
    (with_reducible rename Fr _ _ _ _ => F9)
    (with_reducible rename News _ _ _ _ => N9)
    refine told_E e9 (ord_inv ho) (show nC (invL ks) = nC ks from invC ho) (show nF (invL ks) = nF ks from invF ho) (show nP (invL ks) m = nP ks m from invP ho) rfl F9 N9 X T (by ktr_room) (by ktr_units) ?_
    intro a t1 t2 t3 t4 h5 k5 F5 N5 o5 c8 d8 p8
    clear F9 N9
    k_steps
    show wpP _ _ (execs _ _) _ _ _
    refine execs_consP (Assign_NameP (Call_P ?_))
    k_steps
    (with_reducible rename Fr _ _ _ _ => F9)
    refine callWith_argP (ListCompP_B F9 (by with_unfolding_all rfl) (by decide) (by rfl) (by decide) (by rfl) (Call_P ?_))
    k_steps
    refine callWith_KP (K := Mine.hd.heap_39 w.params) (by k_is) ?_
    k_steps
    refine use_swap (swap_rev w loose mean mg mb x t _ ks hk m ho) rfl (by assumption) (by assumption) X T (by ktr_room) (by ktr_units) ?_
    intro y ty h2 k2 F2 N2 hy2
    clear F9
    have hlow : ∀ k ∈ ks.reverse, 0 ≤ k ∧ k < 2 * (m : Int) := fun k hk9 => by
      obtain ⟨j, hj, rfl⟩ := List.getElem_of_mem (List.mem_reverse.mp hk9)
      have ha := ho.prm.at (i := j) hj
      rw [List.getD_eq_getElem?_getD, List.getElem?_eq_getElem hj, Option.getD_some] at ha
      have := ho.perm.1 j hj
      (first | lia | omega)
    refine CompSrcB.map (fun k => 2 * (m : Int) - 1 - k) (by rfl) (by k_asm) (by k_asm) hy2 (by rw [PySem.sizeLine_eq, List.length_reverse]; (first | lia | omega)) (fun gh k1 t1 I1 oI1 C1 oC1 D1 m3 ys1 hp1 tk1 E1 hk1 hC1 hx1 F1 N1 off1 ne1 hM1 => ?_) (fun gh ys3 hy3 D3 h3 tk3 F3 N3 o3' => ?_)
    · have hlk := hlow k1 hk1
      clear hlow
      k_steps
    · have er3 : (ks.reverse.map fun k => 2 * (m : Int) - 1 - k) = revL ks := by
        unfold revL
        rw [hlen]
        rfl
      rw [er3] at hy3
      refine make_B F3 N3 rfl (News.isList N3 (List.Mem.head _)) hy3 ?_ (by rw [rev_len]; (first | lia | omega)) ?_
      · intro z hz
        obtain ⟨k, hk9, rfl⟩ := List.mem_map.mp hz
        have := hlow k hk9
        have := ho.few
        (first | lia | omega)
      intro h6 b6 t6 k6 F6 N6 e6
      k_steps
      show wpP _ _ (execs _ _) _ _ _
      refine execs_consP (If_P (isTrue_orP (isTrue_CompareP (Call_P ?_))))
      k_steps
      refine callWith_KP (K := Mine.hd.heap_39 w.params) (by k_is) ?_
      k_steps
      refine use_swap (swap_rev w loose mean mg mb x t _ ks hk m ho) rfl (by assumption) (by assumption) X T (by ktr_room) (by ktr_units) ?_
      intro y7 ty7 h7 k7 F7 N7 hy7
      k_steps
      unfold Later
      (with_reducible rename Fr _ _ _ _ => F9)
      (with_reducible rename News _ _ _ _ => N9)
      (with_reducible rename IntsAre _ ks.reverse => I9)
      refine make_B F9 N9 rfl (News.isList N9 (List.Mem.head _)) I9 (fun k hk9 => by have := hlow k hk9; have := ho.few; (first | lia | omega)) (by rw [List.length_reverse]; (first | lia | omega)) ?_
      intro h10 b10 t10 k10 F10 N10 e10
      clear F9 N9
      k_steps
      · exact (no_bytes (by with_reducible assumption) hy7 e10).elim
      unfold Later
      (with_reducible rename Fr _ _ _ _ => F9)
      (with_reducible rename News _ _ _ _ => N9)
      refine told_E e6 (ord_rev ho) (show nC (revL ks) = nC ks from revC ho) (show nF (revL ks) = nF ks from revF ho) (show nP (revL ks) m = nP ks m from revP ho) rfl F9 N9 X T (by ktr_room) (by ktr_units) ?_
      intro a' t1' t2' t3' t4' h5' k5' F5' N5' o5' c8' d8' p8'
      clear F9 N9
      k_steps
      show wpP _ _ (execs _ _) _ _ _
      refine wpP_any ?_
      (with_reducible rename Fr _ _ _ _ => F9)
      (with_reducible rename News _ _ _ _ => N9)
      exact rest14 w loose mean mg mb _ _ _ _ _ _ _ _ _ _ _ _ _ _ _ rfl rfl fa cd s₁ _ _ _ x t ut u1 u2 u3 u4 ks m o1 o2 o3 o4 _ v4 v5 X T hk ho rfl rfl rfl rfl d1 d3 d4 d5 F9 (news_sub N9 (by kcf_all))

section
variable {prog : Program} {w : World} {A : Around} {E : Value → Shared → Prop} {s : Shared} {h₀ : Heap} {L : Addr} {m : Str → Option Value} {news : List (Addr × Obj)} {v1 v2 v3 v4 : Value}
/-- the first three of four -/
theorem sliced3 {sl : Addr} {u : Tok} {Q : Int × Int × Nat → Shared → Prop} (hs : s.heap.IsSliceOf sl .none (.int 3 u) .none) (h : Q (0, 1, 3) s) :
    wpAny (model prog w) A (Builtin.Slice.sliceApplied (.ref sl) (pure (4 : Int))) Q E s := by
  obtain ⟨os, hos, hcs, hds⟩ := id hs
  unfold Builtin.Slice.sliceApplied Builtin.Slice.sliceFields
  refine wpAny_bind (wpAny_bind (wpAny_field hos hds (x := .none) rfl (wpAny_bind (wpAny_field hos hds (x := .int 3 u) rfl (wpAny_bind (wpAny_field hos hds (x := .none) rfl (wpAny_pure ?_)))))))
  refine wpAny_bind (slicePart_none ?_)
  show wpAny _ _ (if ((1 : Int) == 0) = true then _ else _) _ _ s
  rw [if_neg (by decide)]
  refine wpAny_bind (slicePart_none (wpAny_bind (slicePart_int (wpAny_bind (wpAny_pure ?_)))))
  show wpAny _ _ (match Builtin.Slice.sliceAdjust none (some (3 : Int)) 1 (4 : Int) with | (lo, hi) => pure (lo, (1 : Int), Builtin.Slice.slicePlaces lo hi 1)) _ _ s
  exact wpAny_pure h
theorem getItem_first3 {t sl : Addr} {u : Tok} {Q : Value → Shared → Prop} (ht : IsTup s.heap t #[v1, v2, v3, v4]) (hs : s.heap.IsSliceOf sl .none (.int 3 u) .none)
    (h : Q (.ref s.heap.objs.size) { s with heap := s.heap.push { cls := .type "tuple", data := .seq #[v1, v2, v3] } }) : wpAny (model prog w) A (getItem (.ref t) (.ref sl)) Q E s := by
  have hsz : sizeOk (.seq #[v1, v2, v3]) := by
    show (3 : Nat) ≤ sizeLine
    rw [sizeLine_eq]; (first | lia | omega)
  obtain ⟨os, hos, hcs, hds⟩ := id hs
  have hTs : s.TypeIs (.ref sl) "slice" := ⟨os, hos, hcs⟩
  unfold getItem
  try with_reducible refine wpAny_holding ?_
  first | refine wpAny_bind (wpAny_pure ?_) | skip
  refine wpAny_bind (wpAny_sequenceKey ht.typeIs (by decide) ?_)
  refine wpAny_bind (wpAny_callSpecial?_slot (name := Str.ofString "__getitem__") ht.typeIs slot_tuple_getitem
    (wpAny_call_entry slot_tuple_getitem ht.typeIs entry_tuple_getitem ?_ (args_tuple_getitem _ _)))
  show wpAny _ _ (Builtin.Tuple.tupleItemsOf (.ref t) >>= _) _ _ s
  refine wpAny_bind (tupleItemsOf_ ht ?_)
  refine wpAny_bind (wpAny_typeOf hTs ?_)
  rw [if_pos (by decide)]
  refine wpAny_bind (sliced3 hs ?_)
  show wpAny _ _ (if ((0 : Int) == 0 && (1 : Int) == 1 && (3 : Nat) == 4) = true then _ else _) _ _ s
  rw [if_neg (by decide)]
  first
    | exact wpAny_bind (m := Builtin.Tuple.tupleExact _) (wpAny_newObj_type (wpAny_pure ⟨_, rfl, wpAny_pure h⟩) hsz)
    | exact wpAny_bind (m := Builtin.Tuple.tupleExact _) (wpAny_newObj_type (wpAny_bind (wpAny_pure (wpAny_pure ⟨_, rfl, wpAny_pure h⟩))) hsz)
    | exact wpAny_bind (wpAny_bind (m := Builtin.Tuple.tupleExact _) (wpAny_newObj_type (wpAny_pure (wpAny_pure ⟨_, rfl, wpAny_pure h⟩)) hsz))
    | exact wpAny_bind (wpAny_bind (m := Builtin.Tuple.tupleExact _) (wpAny_newObj_type (wpAny_pure ⟨_, rfl, wpAny_pure h⟩) hsz))
theorem slice_first3 {value slice : PySem.Expr} {t : Addr} {u : Tok} {Q : Value → Shared → Prop} (F : Fr h₀ L s.heap m) (N : News h₀ L s.heap news) (ht : IsTup s.heap t #[v1, v2, v3, v4])
    (h : ∀ h', Fr h₀ L h' m → News h₀ L h' ((s.heap.objs.size + 1, { cls := .type "tuple", data := .seq #[v1, v2, v3] }) :: news) → Q (.ref (s.heap.objs.size + 1)) { s with heap := h' })
    (hs : subscripted slice false (.ref t) (.ref s.heap.objs.size) = operate [.ref s.heap.objs.size, .ref t] (getItem (.ref t) (.ref s.heap.objs.size)))
    (hg : ∀ r, letTemporaryGo value (.ref t) r = pure ()) :
    wpAny (model prog w) A (subscriptTail value slice (.ref t) (.ref s.heap.objs.size)) Q E { s with heap := s.heap.push { cls := .type "slice", data := .fields #[.none, .int 3 u, .none] } } := by
  have ht' : IsTup (s.heap.push { cls := .type "slice", data := .fields #[.none, .int 3 u, .none] }) t #[v1, v2, v3, v4] := ht.keeps fun _ _ e => Heap.get?_push_of_some _ e
  refine subscriptTail_ops (s := { s with heap := s.heap.push { cls := .type "slice", data := .fields #[.none, .int 3 u, .none] } }) ht'.typeIs slot_tuple_getitem.lookup (getItem_first3 ht' (Heap.IsSliceOf.new ..) ?_) hs hg
  have N1 := News.push (F.push { cls := .type "slice", data := .fields #[.none, .int 3 u, .none] }) (N.grown fun _ _ e => Heap.get?_push_of_some _ e) { cls := .type "tuple", data := .seq #[v1, v2, v3] }
  rw [Heap.size_push] at N1
  show Q (.ref (s.heap.push _).objs.size) _
  rw [Heap.size_push]
  exact h _ ((F.push _).push _) N1
end

theorem sorted_uniq : ∀ {a b : List Int}, a.Perm b → a.Pairwise (· ≤ ·) → b.Pairwise (· ≤ ·) → a = b
  | [], b, h, _, _ => (List.nil_perm.mp h).symm
  | x :: a, [], h, _, _ => absurd h.length_eq (by simp)
  | x :: a, y :: b, h, ha, hb => by
    obtain ⟨h1, h2⟩ := List.pairwise_cons.mp ha
    obtain ⟨h3, h4⟩ := List.pairwise_cons.mp hb
    have e : x = y := by
      have hx : x ∈ y :: b := h.mem_iff.mp List.mem_cons_self
      have hy : y ∈ x :: a := h.mem_iff.mpr List.mem_cons_self
      rcases List.mem_cons.mp hx with q | q
      · exact q
      · rcases List.mem_cons.mp hy with q' | q'
        · exact q'.symm
        · have := h3 x q; have := h1 y q'; (first | lia | omega)
    subst e
    rw [sorted_uniq ((List.perm_cons x).mp h) h2 h4]
theorem fiel_C {ks : List Int} {m : Nat} (ho : Ord ks m) : nC (fiel ks) = nF ks := num_fiel ho
theorem fiel_F {ks : List Int} {m : Nat} (ho : Ord ks m) : nF (fiel ks) = nC ks := by
  unfold nF nC
  rw [fiel_len]
  have e : num ks.length (stp ks.length (fie (fn (fiel ks)))) = num ks.length (stp ks.length (fie (fie (fn ks)))) := stp_congr fun x hx => by
    show fn (fiel ks) (flip x) = fie (fn ks) (flip x)
    refine fn_fiel ho ?_
    have := ho.len
    have := flip_lt (m := m) (x := x) (by (first | lia | omega))
    (first | lia | omega)
  rw [e, fie_fie]
theorem fiel_P {ks : List Int} {m : Nat} (ho : Ord ks m) : nP (fiel ks) m = nP ks m := by
  unfold nP
  rw [fiel_len]
  exact (pg_congr fun x hx => fn_fiel ho hx).trans (pg_fie ho.len)
theorem nC_pos {ks : List Int} {m : Nat} (ho : Ord ks m) : 0 < nC ks := num_pos (by have := ho.len; have := ho.pos; (first | lia | omega))
theorem nF_pos {ks : List Int} {m : Nat} (ho : Ord ks m) : 0 < nF ks := num_pos (by have := ho.len; have := ho.pos; (first | lia | omega))
theorem euler {ks : List Int} {m : Nat} (ho : Ord ks m) : ∃ g : Nat, 2 * (nP ks m : Int) - nC ks + m - nF ks = 2 * (g : Int) := by
  obtain ⟨g, h⟩ := genus_all ho.perm ho.len
  refine ⟨g, ?_⟩
  have h' : 2 * nP ks m + m = nC ks + nF ks + 2 * g := h
  (first | lia | omega)
set_option maxHeartbeats 1000000 in
theorem st8_ok (w : World) (loose : List Str) (mean : ExcName → Option Value) (mg mb : Str → Option Value) :
    ∀ (st1 st2 st3 st4 st5 st6 st7 st8 : Stmt) (rest : List Stmt) (sc : Scope), lawB = st1 :: st2 :: st3 :: st4 :: st5 :: st6 :: st7 :: st8 :: rest → lawSc = sc →
    ∀ (fa : Addr) (cd : Value) (s₁ : Shared) (h : Heap) (tk : Nat) (f : Str → Option Value) (H C G : Int) (t1 t2 t3 : Tok) (news : List (Addr × Obj)) (Q : Flow → Shared → Prop), (Mine.hd.heap_39 w.params).In s₁.heap → Top Mine.hd.view_39 loose mean mg mb s₁.heap →
    0 ≤ H → H ≤ 1000 → Int.fmod H 2 = 0 → 1 ≤ C → 1 ≤ G →
    f (Str.ofString "handles") = some (.int H t1) → f (Str.ofString "corners") = some (.int C t2) → f (Str.ofString "fields") = some (.int G t3) →
    Fr s₁.heap s₁.heap.objs.size h f → News s₁.heap s₁.heap.objs.size h news → (∀ tk', Q .next { s₁ with heap := h, toks := tk' }) →
    wpAny (model Challenge.rw_ic0001_01.row.toRowW.prog w) (callerA.deeper (envOfC (Str.ofString "law") sc s₁.heap.objs.size fa cd)) (exec st8 (envOfC (Str.ofString "law") sc s₁.heap.objs.size fa cd)) Q (fun _ _ => False) { s₁ with heap := h, toks := tk } := by
  w_top off
  k_fill
  k_with_none
  k_with "execs cons" => (k_here; (with_reducible show wpAny _ _ _ _ _ { heap := _, gens := _, drawn := _, toks := _ + 1 + 1, os := _ }); refine gen_toks (fun tk => ?_))
  k_with "execs nil" => (k_here; (with_reducible show wpAny _ _ _ _ _ { heap := _, gens := _, drawn := _, toks := _ + 1 + 1, os := _ }); refine gen_toks (fun tk => ?_))
  k_with "eval Name" => (k_here; (with_reducible show wpAny _ _ (eval (Expr.Name _ _) (envOfC _ _ _ _ _)) _ _ _); k_dflt (refine' nameX_C ?qw_N ?qw_c ?qw_m ?qw_d ?_ ?qw_a ?qw_b; (case qw_a => rfl); (case qw_b => rfl); (case qw_N => with_reducible assumption); (case qw_c => rfl); (case qw_m => kcf_m); (case qw_d => with_reducible assumption)))
  k_with "call ref" => (k_here; (with_reducible show wpAny _ _ (call (Value.ref 63) [Value.bytes _ _]) _ _ _); refine Later.out ?_)
  k_with "call ref" => (k_here; (with_reducible show wpAny _ _ (call (Value.ref 46) [Value.bytes _ _]) _ _ _); refine Later.out ?_)
  k_with "call ref" => (k_here; (with_reducible show wpAny _ _ (call (Value.ref 51) [Value.bytes _ _]) _ _ _); k_dflt (refine' use_tells (fields_tells _ _ _ _ _ _ _ _ ?qw_hk _ ?qw_hm ?qw_hm1 ?qw_hm4) ?qw_hh ?qw_F ?qw_N ?qw_X ?qw_T ?qw_d ?qw_u ?qw_p ?_; (case qw_hk => with_reducible assumption); (case qw_hm => exact Ord.len (by assumption)); (case qw_hm1 => exact Ord.pos (by assumption)); (case qw_hm4 => exact Ord.few (by assumption)); (case qw_hh => exact rfl); (case qw_F => k_asm); (case qw_N => k_asm); (case qw_X => assumption); (case qw_T => assumption); (case qw_d => ktr_room); (case qw_u => ktr_units); (case qw_p => trivial)); intro r_w h_w k_w F_w N_w hr_w; obtain ⟨y_w, t_w, e9_w, e_w⟩ := hr_w; subst e9_w)
  k_with "subscriptTail Name Slice ref ref" => (k_here; (with_reducible show wpAny _ _ (subscriptTail _ (PySem.Expr.Slice none (some _) none _) (Value.ref _) (Value.ref _)) _ _ _); k_dflt (refine' slice_first3 ?qw_F ?qw_N ?qw_t ?_ ?qw_hs ?qw_hg; (case qw_F => k_asm); (case qw_N => k_asm); (case qw_t => exact News.isTup (by k_asm) (by kcf_m)); (case qw_hs => with_unfolding_all rfl); (case qw_hg => intro _; with_unfolding_all rfl)); intro h_w F_w N_w)
  k_with "call builtin:sorted" => (k_here; refine Later.out ?_)
  k_with "eval ListComp" => (k_here; (with_reducible show wpAny _ _ (eval (Expr.ListComp (Expr.Name (Str.ofString "octet") _) [⟨Expr.Name (Str.ofString "ring") _, _, [], _⟩, ⟨Expr.Name (Str.ofString "octet") _, _, [], _⟩] _ _) _) _ _ _); k_dflt (refine ListComp_D (by k_asm) (by with_unfolding_all rfl) (by decide) (by rfl) (by decide) (by rfl) (by rfl) (by decide) (by decide) ?_))
  intro st1 st2 st3 st4 st5 st6 st7 st8 rest sc hb hs fa cd s₁ h tk f H C G t1 t2 t3 news Q X T h0 h1 hm hC hG f1 f2 f3 F N hQ
  dsimp only [lawB, PySem.Challenge.pw_ic0001_01] at hb
  dsimp only [lawSc, PySem.Challenge.pw_ic0001_01] at hs
  cases hb
  cases hs
  have F8 := frame1 (frame1 (frame1 F f1) (a := Str.ofString "corners") (u := .int C t2) ((if_neg (by decide)).trans f2)) (a := Str.ofString "fields") (u := .int G t3) ((if_neg (by decide)).trans ((if_neg (by decide)).trans f3))
  clear F
  k_steps
  · exfalso
    (with_reducible rename ¬ (Int.fmod H 2 = 0) => e9)
    exact e9 hm
  · exact hQ _
set_option maxHeartbeats 4000000 in
theorem rest5 (w : World) (loose : List Str) (mean : ExcName → Option Value) (mg mb : Str → Option Value) :
    ∀ (st1 st2 st3 st4 : Stmt) (rest : List Stmt) (sc : Scope), lawB = st1 :: st2 :: st3 :: st4 :: rest → lawSc = sc →
    ∀ (fa : Addr) (cd : Value) (s₁ : Shared) (h : Heap) (tk : Nat) (f : Str → Option Value) (x : Array UInt8) (t ut : Tok) (ks : List Int) (m : Nat) (o1 o2 o3 o4 o5 : Obj) (v4 v5 : Option Value) (Dd : Addr) (dv : List Value) (kd : Nat), (Mine.hd.heap_39 w.params).In s₁.heap → Top Mine.hd.view_39 loose mean mg mb s₁.heap →
    KBw.bInts x = ks → Ord ks m →
    o1.data = .cell (some (.int (m : Nat) ut)) → o2.data = .cell (some (.ref Dd)) → o3.data = .cell (some (.bytes x t)) → o4.data = .cell v4 → o5.data = .cell v5 → IntsAre dv ks →
    Fr s₁.heap s₁.heap.objs.size h f → News s₁.heap s₁.heap.objs.size h [(Dd, PySem.W.listOf dv.toArray kd), (s₁.heap.objs.size + 1 + 1 + 1 + 1 + 1, o5), (s₁.heap.objs.size + 1 + 1 + 1 + 1, o4), (s₁.heap.objs.size + 1 + 1 + 1, o3), (s₁.heap.objs.size + 1 + 1, o2), (s₁.heap.objs.size + 1, o1)] →
    wpP (model Challenge.rw_ic0001_01.row.toRowW.prog w) (callerA.deeper (envOfC (Str.ofString "law") sc s₁.heap.objs.size fa cd)) (execs rest (envOfC (Str.ofString "law") sc s₁.heap.objs.size fa cd)) (fun fl s' => LawOk s₁ (retOf fl) s') (fun _ _ => False) { s₁ with heap := h, toks := tk } := by
  w_top off
  k_fill
  k_with_none
  k_with "execs cons" => (k_here; (with_reducible show wpAny _ _ _ _ _ { heap := _, gens := _, drawn := _, toks := _ + 1 + 1, os := _ }); refine gen_toks (fun tk => ?_))
  k_with "execs nil" => (k_here; (with_reducible show wpAny _ _ _ _ _ { heap := _, gens := _, drawn := _, toks := _ + 1 + 1, os := _ }); refine gen_toks (fun tk => ?_))
  k_with "eval Name" => (k_here; (with_reducible show wpAny _ _ (eval (Expr.Name _ _) (envOfC _ _ _ _ _)) _ _ _); k_dflt (refine' nameX_C ?qw_N ?qw_c ?qw_m ?qw_d ?_ ?qw_a ?qw_b; (case qw_a => rfl); (case qw_b => rfl); (case qw_N => with_reducible assumption); (case qw_c => rfl); (case qw_m => kcf_m); (case qw_d => with_reducible assumption)))
  k_with "call ref" => (k_here; (with_reducible show wpAny _ _ (call (Value.ref 63) [Value.bytes _ _]) _ _ _); refine Later.out ?_)
  k_with "call ref" => (k_here; (with_reducible show wpAny _ _ (call (Value.ref 46) [Value.bytes _ _]) _ _ _); refine Later.out ?_)
  k_with "call ref" => (k_here; (with_reducible show wpAny _ _ (call (Value.ref 51) [Value.bytes _ _]) _ _ _); k_dflt (refine' use_tells (fields_tells _ _ _ _ _ _ _ _ ?qw_hk _ ?qw_hm ?qw_hm1 ?qw_hm4) ?qw_hh ?qw_F ?qw_N ?qw_X ?qw_T ?qw_d ?qw_u ?qw_p ?_; (case qw_hk => with_reducible assumption); (case qw_hm => exact Ord.len (by assumption)); (case qw_hm1 => exact Ord.pos (by assumption)); (case qw_hm4 => exact Ord.few (by assumption)); (case qw_hh => exact rfl); (case qw_F => k_asm); (case qw_N => k_asm); (case qw_X => assumption); (case qw_T => assumption); (case qw_d => ktr_room); (case qw_u => ktr_units); (case qw_p => trivial)); intro r_w h_w k_w F_w N_w hr_w; obtain ⟨y_w, t_w, e9_w, e_w⟩ := hr_w; subst e9_w)
  k_with "subscriptTail Name Slice ref ref" => (k_here; (with_reducible show wpAny _ _ (subscriptTail _ (PySem.Expr.Slice none (some _) none _) (Value.ref _) (Value.ref _)) _ _ _); k_dflt (refine' slice_first3 ?qw_F ?qw_N ?qw_t ?_ ?qw_hs ?qw_hg; (case qw_F => k_asm); (case qw_N => k_asm); (case qw_t => exact News.isTup (by k_asm) (by kcf_m)); (case qw_hs => with_unfolding_all rfl); (case qw_hg => intro _; with_unfolding_all rfl)); intro h_w F_w N_w)
  k_with "call builtin:sorted" => (k_here; refine Later.out ?_)
  k_with "eval ListComp" => (k_here; (with_reducible show wpAny _ _ (eval (Expr.ListComp (Expr.Name (Str.ofString "octet") _) [⟨Expr.Name (Str.ofString "ring") _, _, [], _⟩, ⟨Expr.Name (Str.ofString "octet") _, _, [], _⟩] _ _) _) _ _ _); k_dflt (refine ListComp_D (by k_asm) (by with_unfolding_all rfl) (by decide) (by rfl) (by decide) (by rfl) (by rfl) (by decide) (by decide) ?_))
  intro st1 st2 st3 st4 rest sc hb hs fa cd s₁ h tk f x t ut ks m o1 o2 o3 o4 o5 v4 v5 Dd dv kd X T hk ho d1 d2 d3 d4 d5 hdv F N
  dsimp only [lawB, PySem.Challenge.pw_ic0001_01] at hb
  dsimp only [lawSc, PySem.Challenge.pw_ic0001_01] at hs
  cases hb
  cases hs
  have hm4 : m ≤ 400 := by have := ho.few; (first | lia | omega)
  have hlen := ho.len
  have h400 : ks.length ≤ 400 := by have := ho.few; (first | lia | omega)
  refine execs_anyP ?_
  k_steps
  unfold Later
  (with_reducible rename Fr _ _ _ _ => F9)
  (with_reducible rename News _ _ _ _ => N9)
  refine rings_KI hk ho rfl F9 N9 X T (by ktr_room) (by ktr_units) ?_
  intro a refs nf inner xs rs h2 k2 F2 N2 ha hin hI hf hall
  clear F9 N9
  have hfl : rs.flatten.length < 64 := by have := hf.total ho.perm; have := ho.few; (first | lia | omega)
  have hpr := hf.range ho.perm hall
  refine ⟨a, refs, nf, rs, _, rfl, rfl, F2, N2, List.Mem.head _, hI.len, by (first | lia | omega), fun i v e => ?_, fun s₂ hs₂ ys hy => ?_⟩
  · obtain ⟨c, ws, k, r, e1, e2, e3, e4⟩ := hI.at i v e
    exact ⟨c, ws, k, r, e1, List.mem_cons_of_mem _ (List.mem_append.mpr (.inr e2)), e3, e4⟩
  obtain ⟨g', rfl⟩ := hs₂
  intro D9 h9 tk9 F9 N9 o9
  replace N9 : News s₁.heap s₁.heap.objs.size h9 [(D9, PySem.W.listOf ys.toArray ys.length), (Dd, PySem.W.listOf dv.toArray kd), (s₁.heap.objs.size + 1 + 1 + 1 + 1 + 1, o5), (s₁.heap.objs.size + 1 + 1 + 1 + 1, o4), (s₁.heap.objs.size + 1 + 1 + 1, o3), (s₁.heap.objs.size + 1 + 1, o2), (s₁.heap.objs.size + 1, o1)] := news_sub N9 (by kcf_all)
  clear F2 N2 hin hI ha hall hf o9
  generalize rs.flatten = fl at hy hfl hpr
  k_steps
  unfold Later
  refine kso_sorted F9 N9 (News.isList N9 (List.Mem.head _)) hy hfl ?_
  intro D8 vs8 ns8 c8 h8 F8 N8 _ I8 _ p8 s8 _
  have heq : ns8 = (List.range ks.length).map fun i => ((i : Nat) : Int) := by
    refine sorted_uniq (p8.trans hpr) s8 ?_
    rw [List.pairwise_map]
    exact (List.pairwise_lt_range (n := ks.length)).imp fun hab => by (first | lia | omega)
  subst heq
  clear F9 N9 p8 s8 hpr
  have er : ((List.range ks.length).map fun i => ((i : Nat) : Int)) = rangeKs 0 (2 * (m : Int) - 0).toNat := by
    rw [show (2 * (m : Int) - 0).toNat = ks.length by (first | lia | omega)]
    unfold rangeKs
    exact List.map_congr_left fun k _ => (Int.zero_add _).symm
  k_steps
  clear er
  show wpP _ _ (execs _ _) _ _ _
  (with_reducible rename Fr _ _ _ _ => F7)
  (with_reducible rename News _ _ _ _ => N7)
  replace N7 := news_sub N7 (b := [(Dd, PySem.W.listOf dv.toArray kd), (s₁.heap.objs.size + 1 + 1 + 1 + 1 + 1, o5), (s₁.heap.objs.size + 1 + 1 + 1 + 1, o4), (s₁.heap.objs.size + 1 + 1 + 1, o3), (s₁.heap.objs.size + 1 + 1, o2), (s₁.heap.objs.size + 1, o1)]) (by kcf_all)
  (try clear N8)
  refine execs_anyP ?_
  k_steps
  unfold Later
  (with_reducible rename Fr _ _ _ _ => F9)
  (with_reducible rename News _ _ _ _ => N9)
  refine told_E hk ho rfl rfl rfl rfl F9 N9 X T (by ktr_room) (by ktr_units) ?_
  intro a1 t1 t2 t3 t4 h5 k5 F5 N5 oo5 c8' g8 q8
  clear F9 N9 oo5
  k_steps
  show wpP _ _ (execs _ _) _ _ _
  refine execs_anyP ?_
  obtain ⟨g, hg⟩ := euler ho
  have hCp := nC_pos ho
  have hFp := nF_pos ho
  have hfm : Int.fmod (2 * (nP ks m : Int) - nC ks + m - nF ks) 2 = 0 := by
    rw [hg, Int.fmod_eq_emod_of_nonneg _ (by decide)]; (first | lia | omega)
  have h1000 : (nP ks m : Int) ≤ 8 := by (first | lia | omega)
  generalize hH : 2 * (nP ks m : Int) - nC ks + m - nF ks = HH at hg hfm
  have hH0 : 0 ≤ HH := by (first | lia | omega)
  have hH1 : HH ≤ 1000 := by (first | lia | omega)
  have hC1 : (1 : Int) ≤ (nC ks : Nat) := by (first | lia | omega)
  have hF1 : (1 : Int) ≤ (nF ks : Nat) := by (first | lia | omega)
  clear hg hCp hFp
  k_steps
  show wpP _ _ (execs _ _) _ _ _
  refine execs_anyP ?_
  (with_reducible rename Fr _ _ _ _ => F9)
  (with_reducible rename News _ _ _ _ => N9)
  rw [hH] at F9
  refine st8_ok w loose mean mg mb _ _ _ _ _ _ _ _ _ _ rfl rfl fa cd s₁ _ _ _ HH (nC ks : Nat) (nF ks : Nat) _ _ _ _ _ X T hH0 hH1 hfm hC1 hF1 rfl rfl rfl F9 N9 fun tk' => ?_
  show wpP _ _ (execs _ _) _ _ _
  clear hfm hH0 hH1 hH
  refine execs_anyP ?_
  have hof := ord_fiel ho
  k_steps
  unfold Later
  (with_reducible rename Fr _ _ _ _ => F9)
  (with_reducible rename News _ _ _ _ => N9)
  (with_reducible rename KBw.bInts _ = fiel ks => e9)
  refine told_E e9 hof (fiel_C ho) (fiel_F ho) (fiel_P ho) rfl F9 N9 X T (by ktr_room) (by ktr_units) ?_
  intro a2 t1' t2' t3' t4' h6 k6 F6 N6 oo6 c6 g6 p6
  clear F9 N9 oo6
  k_steps
  unfold Later
  (with_reducible rename Fr _ _ _ _ => F9)
  (with_reducible rename News _ _ _ _ => N9)
  (with_reducible rename KBw.bInts _ = fiel ks => e9')
  refine told_E e9' hof (fiel_C ho) (fiel_F ho) (fiel_P ho) rfl F9 N9 X T (by ktr_room) (by ktr_units) ?_
  intro a3 t1'' t2'' t3'' t4'' h7 k7 F7 N7 oo7 c7 g7 p7
  clear F9 N9 oo7
  k_steps
  · exfalso
    (with_reducible rename ((nP ks m : Nat) : Int) ≠ _ => e5)
    exact e5 rfl
  show wpP _ _ (execs _ _) _ _ _
  (with_reducible rename Fr _ _ _ _ => F9)
  (with_reducible rename News _ _ _ _ => N9)
  exact rest10 w loose mean mg mb _ _ _ _ _ _ _ _ _ _ _ rfl rfl fa cd s₁ _ _ _ x t ut _ _ _ _ ks m o1 o2 o3 o4 o5 v4 v5 Dd dv kd X T hk ho rfl rfl rfl rfl d1 d2 d3 d4 d5 hdv F9 (news_sub N9 (by kcf_all))

theorem erase_perm : ∀ (l : List Int) (j : Nat), j < l.length → (l.getD j 0 :: l.eraseIdx j).Perm l
  | [], _, h => absurd h (Nat.not_lt_zero _)
  | x :: r, 0, _ => .refl _
  | x :: r, j + 1, h => by
    have e := erase_perm r j (Nat.lt_of_succ_lt_succ h)
    show (r.getD j 0 :: x :: r.eraseIdx j).Perm (x :: r)
    exact (List.Perm.swap _ _ _).trans (e.cons x)
theorem draw_perm {l : List Int} {j : Nat} (d : List Int) (h : j < l.length) : ((d ++ [l.getD j 0]) ++ l.eraseIdx j).Perm (d ++ l) := by
  rw [List.append_assoc]
  exact (erase_perm l j h).append_left d
theorem ord_range {d : List Int} {m : Nat} (h : d.Perm (rangeKs 0 (2 * m))) (h1 : 1 ≤ m) (h4 : m ≤ 4) : Ord d m := by
  have hl : d.length = 2 * m := by rw [h.length_eq, rangeKs_length]
  have hb : ∀ k ∈ d, 0 ≤ k ∧ k < 2 * (m : Int) := fun k hk => by
    have := mem_rangeKs (h.mem_iff.mp hk)
    (first | lia | omega)
  have hn : d.Nodup := by
    refine h.nodup_iff.mpr ?_
    unfold rangeKs
    rw [List.Nodup, List.pairwise_map]
    refine List.nodup_range.imp fun hab e => hab ?_
    (first | lia | omega)
  have hat : ∀ i, (hi : i < d.length) → d.getD i 0 = d[i] := fun i hi => by rw [List.getD_eq_getElem?_getD, List.getElem?_eq_getElem hi]; rfl
  refine ⟨hl, h1, h4, ⟨fun i hi => ?_, fun i j hi hj e => ?_⟩, fun k hk => (hb k hk).1⟩
  · unfold fn
    rw [hat i hi]
    have := hb _ (List.getElem_mem hi)
    (first | lia | omega)
  · unfold fn at e
    rw [hat i hi, hat j hj] at e
    have a := hb _ (List.getElem_mem hi)
    have b := hb _ (List.getElem_mem hj)
    have e2 : d[i] = d[j] := by (first | lia | omega)
    have key := List.pairwise_iff_getElem.mp hn
    rcases Nat.lt_trichotomy i j with q | q | q
    · exact absurd e2 (key i j hi hj q)
    · exact q
    · exact absurd e2.symm (key j i hj hi q)
theorem range_byte {d : List Int} {m : Nat} (h : d.Perm (rangeKs 0 (2 * m))) (h4 : m ≤ 4) : ∀ k ∈ d, 0 ≤ k ∧ k < 256 := fun k hk => by
  have := mem_rangeKs (h.mem_iff.mp hk)
  (first | lia | omega)

theorem cut_at : ∀ {l : List Value} {k : Nat} {y : Value}, l[k]? = some y → kl_cut l k = some (l.take k, y, l.drop (k + 1))
  | [], _, _, h => by simp at h
  | x :: r, 0, y, h => by
    have h : some x = some y := by simpa using h
    cases h; rfl
  | x :: r, k + 1, y, h => by
    have h : r[k]? = some y := by simpa using h
    show (match kl_cut r k with | some (p, y, q) => some (x :: p, y, q) | none => none) = some (x :: r.take k, y, r.drop (k + 1))
    rw [cut_at h]
theorem ints_erase : ∀ {lv : List Value} {lf : List Int}, IntsAre lv lf → ∀ k, IntsAre (lv.eraseIdx k) (lf.eraseIdx k)
  | _, _, .nil, _ => .nil
  | _, _, .cons _ _ r, 0 => r
  | _, _, .cons k t r, j + 1 => .cons k t (ints_erase r j)
theorem frame_un {h₀ h : Heap} {L : Addr} {m : Str → Option Value} {a b : Str} {u v : Value} (F : Fr h₀ L h (fun z => if z = b then some v else if z = a then some u else m z)) (ha : m a = some u) (hb : m b = some v) : Fr h₀ L h m := by
  have e : (fun z => if z = b then some v else if z = a then some u else m z) = m := by
    funext z
    by_cases hz : z = b
    · subst hz; simp [hb]
    · by_cases hy : z = a
      · subst hy; simp [hz, ha]
      · simp [hz, hy]
  rw [e] at F; exact F
theorem ints_snoc : ∀ {lv : List Value} {lf : List Int}, IntsAre lv lf → ∀ k t, IntsAre (lv ++ [.int k t]) (lf ++ [k])
  | _, _, .nil, k, t => .cons k t .nil
  | _, _, .cons _ _ r, k, t => .cons _ _ (ints_snoc r k t)
theorem erase_td {α : Type} : ∀ (l : List α) (k : Nat), l.take k ++ l.drop (k + 1) = l.eraseIdx k
  | [], _ => by simp
  | x :: r, 0 => rfl
  | x :: r, k + 1 => congrArg (List.cons x) (erase_td r k)
theorem ints_getD : ∀ {lv : List Value} {lf : List Int}, IntsAre lv lf → ∀ k, k < lf.length → ∃ t, lv[k]? = some (.int (lf.getD k 0) t)
  | _, _, .nil, _, h => absurd h (Nat.not_lt_zero _)
  | _, _, .cons _ t r, 0, _ => ⟨t, rfl⟩
  | _, _, .cons k t r, j + 1, h => by
    obtain ⟨u, e⟩ := ints_getD r j (Nat.lt_of_succ_lt_succ h)
    exact ⟨u, by simpa using e⟩
section
variable {prog : Program} {w : World} {A : Around} {h₀ : Heap} {L D : Addr} {m : Str → Option Value} {news news' : List (Addr × Obj)} {s : Shared} {E : Value → Shared → Prop}
theorem pop_K {i : Int} {u : Tok} {lv : List Value} {lf : List Int} {n : Nat} {Q : Value → Shared → Prop} (F : Fr h₀ L s.heap m) (N : News h₀ L s.heap news) (U : Upd D (listOf lv.toArray n) (listOf (lv.eraseIdx i.toNat).toArray (n + 1)) news news') (hi : IntsAre lv lf) (h0 : 0 ≤ i) (h1 : i < lf.length) (hz : lf.length ≤ 400)
    (h : ∀ h' t, Fr h₀ L h' m → News h₀ L h' news' → IntsAre (lv.eraseIdx i.toNat) (lf.eraseIdx i.toNat) → Q (.int (lf.getD i.toNat 0) t) { s with heap := h' }) : wpAny (model prog w) A (call (.builtin "list.pop") [.ref D, .int i u]) Q E s := by
  obtain ⟨t, e⟩ := ints_getD hi i.toNat (by (first | lia | omega))
  have hl := hi.length
  have h1' : i < (lf.length : Int) := h1
  have U' : Upd D (listOf lv.toArray n) (listOf (lv.take i.toNat ++ lv.drop (i.toNat + 1)).toArray (n + 1)) news news' := by rw [erase_td]; exact U
  refine kl_popAt F N ?_ ?_ (cut_at (l := lv.toArray.toList) e) U' ?_ fun h' F' N' => h h' t F' N' (ints_erase hi _)
  · show (decide (-(2 ^ 63 : Int) ≤ i) && decide (i < 2 ^ 63)) = true
    rw [decide_eq_true (by (first | lia | omega)), decide_eq_true (by (first | lia | omega))]; rfl
  · show (if (0 ≤ (if i < 0 then i + (lv.toArray.size : Int) else i) && (if i < 0 then i + (lv.toArray.size : Int) else i) < (lv.toArray.size : Int)) = true then some (if i < 0 then i + (lv.toArray.size : Int) else i).toNat else none) = some i.toNat
    have e3 : (lv.toArray.size : Int) = lf.length := by rw [List.size_toArray]; exact_mod_cast hl
    have e4 : (if i < 0 then i + (lv.toArray.size : Int) else i) = i := if_neg (by (first | lia | omega))
    rw [e4, e3, if_pos (by rw [decide_eq_true h0, decide_eq_true h1']; rfl)]
  · rw [PySem.sizeLine_eq]
    show lv.length ≤ _
    (first | lia | omega)
end
/-- what the loop's turn runs -/
def drawB : List Stmt := match lawB with
  | _ :: _ :: .For _ _ b _ _ :: _ => b
  | _ => []
set_option maxHeartbeats 1000000 in
theorem draw_turn (w : World) (loose : List Str) (mean : ExcName → Option Value) (mg mb : Str → Option Value) :
    ∀ (sc : Scope), lawSc = sc →
    ∀ (fa : Addr) (cd : Value) (s₁ : Shared) (h : Heap) (tk : Nat) (f : Str → Option Value) (La Da : Addr) (lv dv : List Value) (lf dr : List Int) (a b : Nat) (n : Int) (tn : Tok) (o2 : Obj) (rest : List (Addr × Obj)) (Q : Flow → Shared → Prop) (E : Value → Shared → Prop), (Mine.hd.heap_39 w.params).In s₁.heap → Top Mine.hd.view_39 loose mean mg mb s₁.heap →
    IntsAre lv lf → IntsAre dv dr → 0 < lf.length → lf.length ≤ 400 → dr.length ≤ 400 → f (Str.ofString "left") = some (.ref La) → f (Str.ofString "number") = some (.int n tn) → o2.data = .cell (some (.ref Da)) →
    (@Ne Nat La Da) → (∀ p ∈ rest, p.1 ≠ La) → (∀ p ∈ rest, p.1 ≠ Da) → (s₁.heap.objs.size + 1 + 1, o2) ∈ rest →
    Fr s₁.heap s₁.heap.objs.size h f → News s₁.heap s₁.heap.objs.size h ((La, PySem.W.listOf lv.toArray a) :: (Da, PySem.W.listOf dv.toArray b) :: rest) →
    (∀ h' tk' lv' dv', Fr s₁.heap s₁.heap.objs.size h' f → News s₁.heap s₁.heap.objs.size h' ((La, PySem.W.listOf (lv' : List Value).toArray (a + 1)) :: (Da, PySem.W.listOf (dv' : List Value).toArray (b + 1)) :: rest) →
      IntsAre lv' (lf.eraseIdx (n.fmod lf.length).toNat) → IntsAre dv' (dr ++ [lf.getD (n.fmod lf.length).toNat 0]) → Q .next { s₁ with heap := h', toks := tk' }) →
    wpAny (model Challenge.rw_ic0001_01.row.toRowW.prog w) (callerA.deeper (envOfC (Str.ofString "law") sc s₁.heap.objs.size fa cd)) (execs drawB (envOfC (Str.ofString "law") sc s₁.heap.objs.size fa cd)) Q E { s₁ with heap := h, toks := tk } := by
  w_top off
  k_fill
  k_with_none
  k_with "eval Name" => (k_here; (with_reducible show wpAny _ _ (eval (Expr.Name _ _) (envOfC _ _ _ _ _)) _ _ _); k_dflt (refine' nameX_C ?qw_N ?qw_c ?qw_m ?qw_d ?_ ?qw_a ?qw_b; (case qw_a => rfl); (case qw_b => rfl); (case qw_N => with_reducible assumption); (case qw_c => rfl); (case qw_m => kcf_m); (case qw_d => with_reducible assumption)))
  k_with "call builtin:len" => (k_here; (with_reducible show wpAny _ _ (call (Value.builtin "len") [Value.ref _]) _ _ _); k_dflt (refine' KM.len_K ?qw_N ?qw_m ?qw_s ?qw_f ?_; (case qw_N => k_asm); (case qw_m => k_mem); (case qw_s => with_reducible assumption); (case qw_f => (first | lia | omega))))
  k_with "call builtin:list.pop" => refine Later.out ?_
  k_with "call builtin:list.append" => refine Later.out ?_
  intro sc hs fa cd s₁ h tk f La Da lv dv lf dr a b n tn o2 rest Q E X T hL hD h1 h4 hd4 f1 f2 d2 hne r1 r2 hm F N hQ
  unfold drawB
  dsimp only [lawB, PySem.Challenge.pw_ic0001_01]
  dsimp only [lawSc, PySem.Challenge.pw_ic0001_01] at hs
  cases hs
  have F8 := frame1 (frame1 F f1) (a := Str.ofString "number") (by rw [if_neg (by decide)]; exact f2)
  clear F
  have h0 : 0 ≤ n.fmod lf.length := by rw [Int.fmod_eq_emod_of_nonneg _ (by (first | lia | omega))]; exact Int.emod_nonneg _ (by (first | lia | omega))
  have h1f : n.fmod lf.length < lf.length := by rw [Int.fmod_eq_emod_of_nonneg _ (by (first | lia | omega))]; exact Int.emod_lt_of_pos _ (by (first | lia | omega))
  k_steps
  unfold Later
  refine pop_K F8 N (.head fun p hp => ?_) hL h0 h1f h4 ?_
  · rcases List.mem_cons.mp hp with rfl | hp
    · exact hne.symm
    · exact r1 p hp
  · intro h2 t2 F2 N2 hI2
    clear N F8
    k_steps
    unfold Later
    refine append_K F2 N2 (.tail hne (.head r2)) ?_ ?_
    · intro h3 F3 N3
      k_steps
      rw [List.push_toArray] at N3
      refine hQ _ _ _ _ (frame_un F3 f1 f2) N3 hI2 (ints_snoc hD _ _)
    · rw [PySem.sizeLine_eq, List.size_toArray]
      have := hD.length
      (first | lia | omega)
def DJ (base : List (Addr × Obj)) (m : Nat) (La Da : Addr) (i : Nat) (m₁ : Str → Option Value) (nx : List (Addr × Obj)) : Prop :=
  ∃ (lv : List Value) (a : Nat) (lf : List Int) (dv : List Value) (b : Nat) (dr : List Int), nx = (La, PySem.W.listOf lv.toArray a) :: (Da, PySem.W.listOf dv.toArray b) :: base ∧ IntsAre lv lf ∧ IntsAre dv dr ∧ dr.length = i ∧ lf.length + i = 2 * m ∧ (dr ++ lf).Perm (rangeKs 0 (2 * m)) ∧ m₁ (Str.ofString "left") = some (.ref La)
theorem draw_loop (w : World) (loose : List Str) (mean : ExcName → Option Value) (mg mb : Str → Option Value) :
    ∀ (sc : Scope) (bd : List Stmt), lawSc = sc → drawB = bd →
    ∀ (fa : Addr) (cd : Value) (s₁ : Shared) (h : Heap) (tk : Nat) (f : Str → Option Value) (sl La Da : Addr) (ws lv : List Value) (ss : List Int) (sn a b m : Nat) (o2 : Obj) (base : List (Addr × Obj)) (Q : Flow → Shared → Prop) (E : Value → Shared → Prop), (Mine.hd.heap_39 w.params).In s₁.heap → Top Mine.hd.view_39 loose mean mg mb s₁.heap →
    IntsAre ws ss → ss.length = 2 * m → IntsAre lv (rangeKs 0 (2 * m)) → m ≤ 4 → f (Str.ofString "left") = some (.ref La) → o2.data = .cell (some (.ref Da)) →
    (@Ne Nat La Da) → (∀ p ∈ base, p.1 ≠ La) → (∀ p ∈ base, p.1 ≠ Da) → (s₁.heap.objs.size + 1 + 1, o2) ∈ base → (sl, PySem.W.listOf ws.toArray sn) ∈ base →
    Fr s₁.heap s₁.heap.objs.size h f → News s₁.heap s₁.heap.objs.size h ((La, PySem.W.listOf lv.toArray a) :: (Da, PySem.W.listOf ([] : List Value).toArray b) :: base) →
    (∀ h' tk' m₁ (lv' : List Value) a' (dv' : List Value) b' dr, Fr s₁.heap s₁.heap.objs.size h' m₁ → News s₁.heap s₁.heap.objs.size h' ((La, PySem.W.listOf lv'.toArray a') :: (Da, PySem.W.listOf dv'.toArray b') :: base) → IntsAre dv' dr → dr.Perm (rangeKs 0 (2 * m)) → Q .next { s₁ with heap := h', toks := tk' }) →
    wpAny (model Challenge.rw_ic0001_01.row.toRowW.prog w) (callerA.deeper (envOfC (Str.ofString "law") sc s₁.heap.objs.size fa cd)) (pyIter (.ref sl)) (fun it s₂ => LoopAtV Challenge.rw_ic0001_01.row.toRowW.prog w (callerA.deeper (envOfC (Str.ofString "law") sc s₁.heap.objs.size fa cd)) s₁.heap (envOfC (Str.ofString "law") sc s₁.heap.objs.size fa cd) (Str.ofString "number") bd Q E it s₂) E { s₁ with heap := h, toks := tk } := by
  intro sc bd hs hb fa cd s₁ h tk f sl La Da ws lv ss sn a b m o2 base Q E X T hS hs2 hL h4 f1 d2 hne r1 r2 hm hsl F N hdone
  subst hb
  have hlen := hS.length
  refine kdl_iter (env := envOfC (Str.ofString "law") sc s₁.heap.objs.size fa cd) (fun i m₁ nx => DJ base m La Da i m₁ nx) rfl (.tail _ (.tail _ hsl)) F N ⟨lv, a, _, [], b, [], rfl, hL, .nil, rfl, by rw [rangeKs_length]; rfl, .refl _, f1⟩ ?_ ?_
  · rintro i v m₁ nx h2 tk2 own hv hoff - ⟨lv2, a2, lf2, dv2, b2, dr2, rfl, hL2, hD2, hdr, hlf, hpm, hf1⟩ F2 N2
    have hi : i < ss.length := by rw [← hlen]; exact (List.getElem?_eq_some_iff.mp hv).1
    obtain ⟨t, hx⟩ := ints_getD hS i hi
    rw [hv] at hx
    obtain rfl := Option.some.inj hx
    have hoff1 : ∀ p ∈ own, p.1 ≠ La := fun p hp => hoff p hp _ (.head _)
    have hoff2 : ∀ p ∈ own, p.1 ≠ Da := fun p hp => hoff p hp _ (.tail _ (.head _))
    refine draw_turn w loose mean mg mb sc hs fa cd s₁ h2 tk2 _ La Da lv2 dv2 lf2 dr2 a2 b2 (ss.getD i 0) t o2 (base ++ own) _ E X T hL2 hD2 (by (first | lia | omega)) (by (first | lia | omega)) (by (first | lia | omega)) ?_ ?_ d2 hne ?_ ?_ (List.mem_append.mpr (.inl hm)) F2 N2 ?_
    · show (if Str.ofString "left" = Str.ofString "number" then _ else m₁ (Str.ofString "left")) = _
      rw [if_neg (by decide)]; exact hf1
    · show (if Str.ofString "number" = Str.ofString "number" then _ else _) = _
      rw [if_pos rfl]
    · intro p hp
      rcases List.mem_append.mp hp with hp | hp
      · exact r1 p hp
      · exact hoff1 p hp
    · intro p hp
      rcases List.mem_append.mp hp with hp | hp
      · exact r2 p hp
      · exact hoff2 p hp
    · intro h3 tk3 lv3 dv3 F3 N3 hL3 hD3
      have hj : ((ss.getD i 0).fmod lf2.length).toNat < lf2.length := by
        have hp : 0 < lf2.length := by (first | lia | omega)
        rw [Int.fmod_eq_emod_of_nonneg _ (by (first | lia | omega))]
        have := Int.emod_nonneg (ss.getD i 0) (b := (lf2.length : Int)) (by (first | lia | omega))
        have := Int.emod_lt_of_pos (ss.getD i 0) (b := (lf2.length : Int)) (by (first | lia | omega))
        (first | lia | omega)
      refine InvEndG.intro F3 N3 (nx := (La, PySem.W.listOf lv3.toArray (a2 + 1)) :: (Da, PySem.W.listOf dv3.toArray (b2 + 1)) :: base) ⟨.tail _ (.tail _ hsl), lv3, _, _, dv3, _, _, rfl, hL3, hD3, ?_, ?_, (draw_perm dr2 hj).trans hpm, ?_⟩ hoff ?_ ?_
      · rw [List.length_append, hdr]; rfl
      · rw [List.length_eraseIdx_of_lt hj]; (first | lia | omega)
      · show (if Str.ofString "left" = Str.ofString "number" then _ else m₁ (Str.ofString "left")) = _
        rw [if_neg (by decide)]; exact hf1
      · intro p hp
        rcases List.mem_cons.mp hp with rfl | hp
        · exact .head _
        · rcases List.mem_cons.mp hp with rfl | hp
          · exact .tail _ (.head _)
          · exact .tail _ (.tail _ (List.mem_append.mpr (.inl hp)))
      · intro p hp
        exact .tail _ (.tail _ (List.mem_append.mpr (.inr hp)))
  · rintro m₁ nx h2 tk2 ⟨lv2, a2, lf2, dv2, b2, dr2, rfl, hL2, hD2, hdr, hlf, hpm, hf1⟩ F2 N2
    have e0 : lf2 = [] := List.eq_nil_of_length_eq_zero (by (first | lia | omega))
    subst e0
    rw [List.append_nil] at hpm
    exact hdone h2 tk2 m₁ lv2 a2 dv2 b2 dr2 F2 N2 hD2 hpm

theorem draw_of {s1 s2 : Stmt} {x y : Expr} {b e : List Stmt} {p : Pos} {r : List Stmt} (h : lawB = s1 :: s2 :: .For x y b e p :: r) : drawB = b := by unfold drawB; rw [h]
theorem all6 {P : Addr × Obj → Prop} {a b c d e f : Addr × Obj} (h1 : P a) (h2 : P b) (h3 : P c) (h4 : P d) (h5 : P e) (h6 : P f) : ∀ p ∈ [a, b, c, d, e, f], P p := by
  intro p hp
  simp only [List.mem_cons, List.not_mem_nil, or_false] at hp
  rcases hp with rfl | rfl | rfl | rfl | rfl | rfl <;> assumption
theorem news_pick {h₀ h : Heap} {L : Addr} {s p1 p2 p3 p4 d l c5 c4 c3 c2 c1 : Addr × Obj} (N : News h₀ L h [s, p1, p2, p3, p4, d, l, c5, c4, c3, c2, c1]) : News h₀ L h (l :: d :: [s, c5, c4, c3, c2, c1]) := news_sub N (by kcf_all)
set_option maxHeartbeats 4000000 in
theorem rest2 (w : World) (loose : List Str) (mean : ExcName → Option Value) (mg mb : Str → Option Value) :
    ∀ (st1 : Stmt) (rest : List Stmt) (sc : Scope), lawB = st1 :: rest → lawSc = sc →
    ∀ (fa : Addr) (cd : Value) (s₁ : Shared) (h : Heap) (tk : Nat) (f : Str → Option Value) (ut : Tok) (l : Addr) (vs : List Value) (ns : List Int) (m : Nat) (o1 o2 o3 o4 o5 : Obj) (v2 v3 v4 v5 : Option Value), (Mine.hd.heap_39 w.params).In s₁.heap → Top Mine.hd.view_39 loose mean mg mb s₁.heap →
    s₁.heap.IsList l vs.toArray → IntsAre vs ns → ns.length ≤ 63 → f (Str.ofString "script") = some (.ref l) → Later (1 ≤ m ∧ m ≤ 4) → m ≤ 400 →
    o1.data = .cell (some (.int (m : Nat) ut)) → o2.data = .cell v2 → o3.data = .cell v3 → o4.data = .cell v4 → o5.data = .cell v5 →
    Fr s₁.heap s₁.heap.objs.size h f → News s₁.heap s₁.heap.objs.size h [(s₁.heap.objs.size + 1 + 1 + 1 + 1 + 1, o5), (s₁.heap.objs.size + 1 + 1 + 1 + 1, o4), (s₁.heap.objs.size + 1 + 1 + 1, o3), (s₁.heap.objs.size + 1 + 1, o2), (s₁.heap.objs.size + 1, o1)] →
    wpP (model Challenge.rw_ic0001_01.row.toRowW.prog w) (callerA.deeper (envOfC (Str.ofString "law") sc s₁.heap.objs.size fa cd)) (execs rest (envOfC (Str.ofString "law") sc s₁.heap.objs.size fa cd)) (fun fl s' => LawOk s₁ (retOf fl) s') (fun _ _ => False) { s₁ with heap := h, toks := tk } := by
  w_top off
  k_fill
  k_with_none
  k_with "execs cons" => (k_here; (with_reducible show wpAny _ _ _ _ _ { heap := _, gens := _, drawn := _, toks := _ + 1 + 1, os := _ }); refine gen_toks (fun tk => ?_))
  k_with "execs nil" => (k_here; (with_reducible show wpAny _ _ _ _ _ { heap := _, gens := _, drawn := _, toks := _ + 1 + 1, os := _ }); refine gen_toks (fun tk => ?_))
  k_with "eval Name" => (k_here; (with_reducible show wpAny _ _ (eval (Expr.Name _ _) (envOfC _ _ _ _ _)) _ _ _); k_dflt (refine' nameX_C ?qw_N ?qw_c ?qw_m ?qw_d ?_ ?qw_a ?qw_b; (case qw_a => rfl); (case qw_b => rfl); (case qw_N => with_reducible assumption); (case qw_c => rfl); (case qw_m => kcf_m); (case qw_d => with_reducible assumption)))
  k_with "call type:bytes" => (k_here; (with_reducible show wpAny _ _ (call (Value.type "bytes") [Value.ref _]) _ _ _); refine Later.out ?_)
  k_with "exec For Name Subscript cons nil" => (k_here; (rename Fr _ _ _ _ => lF_w); (with_unfolding_all refine' For_invVF lF_w ?qw_k1 ?qw_k2 ?_; (case qw_k1 => exact rfl); (case qw_k2 => exact rfl); k_whole))
  k_with "pyIter ref" => refine Later.out ?_
  intro st1 rest sc hb hs fa cd s₁ h tk f ut l vs ns m o1 o2 o3 o4 o5 v2 v3 v4 v5 X T hl hI h63 f1 hm14 hm4 d1 d2 d3 d4 d5 F N
  have hs0 := hs
  have hb0 := hb
  dsimp only [lawB, PySem.Challenge.pw_ic0001_01] at hb
  dsimp only [lawSc, PySem.Challenge.pw_ic0001_01] at hs
  cases hb
  cases hs
  have F8 := frame1 F f1
  clear F
  refine execs_anyP ?_
  k_steps
  show wpP _ _ (execs _ _) _ _ _
  refine execs_anyP ?_
  k_steps
  unfold Later
  (with_reducible rename Fr _ _ _ _ => F9)
  (with_reducible rename News _ _ _ _ => N9)
  (with_reducible rename IntsAre _ (List.take _ _) => hW)
  (with_reducible rename IntsAre _ (rangeKs _ _) => hR)
  (with_reducible rename Obj.data _ = Data.cell (some (Value.ref _)) => d9)
  obtain ⟨m1, m4⟩ : 1 ≤ m ∧ m ≤ 4 := hm14
  have hw2 : (List.take (2 * (m : Int)).toNat (ns ++ (List.replicate 8 [(0 : Int)]).flatten)).length = 2 * m := by
    have e8 : ((List.replicate 8 [(0 : Int)]).flatten).length = 8 := rfl
    rw [List.length_take, List.length_append, e8]; (first | lia | omega)
  have hR' := hR
  rw [show (2 * (m : Int) - 0).toNat = 2 * m by (first | lia | omega)] at hR'
  refine draw_loop w loose mean mg mb _ _ hs0 (draw_of hb0) fa cd s₁ _ _ _ _ _ _ _ _ _ _ _ _ m _ _ _ _ X T hW hw2 hR' m4 rfl d9 (by show @Ne Nat _ _; (first | lia | omega)) (all6 (by show @Ne Nat _ _; (first | lia | omega)) (by show @Ne Nat _ _; (first | lia | omega)) (by show @Ne Nat _ _; (first | lia | omega)) (by show @Ne Nat _ _; (first | lia | omega)) (by show @Ne Nat _ _; (first | lia | omega)) (by show @Ne Nat _ _; (first | lia | omega))) (all6 (by show @Ne Nat _ _; (first | lia | omega)) (by show @Ne Nat _ _; (first | lia | omega)) (by show @Ne Nat _ _; (first | lia | omega)) (by show @Ne Nat _ _; (first | lia | omega)) (by show @Ne Nat _ _; (first | lia | omega)) (by show @Ne Nat _ _; (first | lia | omega))) (by kcf_m) (by kcf_m) F9 (news_pick N9) ?_
  intro h9 tk9 f9 lv9 a9 dv9 b9 dr F7 N7 hD9 hp9
  clear F9 N9 hW hw2 hR hR'
  show wpP _ _ (execs _ _) _ _ _
  refine execs_anyP ?_
  k_steps
  unfold Later
  refine make_B F7 N7 rfl (News.isList N7 (by kcf_m)) hD9 (range_byte hp9 m4) (by rw [hp9.length_eq, rangeKs_length]; (first | lia | omega)) ?_
  intro h8 b8 t8 k8 F6 N6 e6
  clear F7 N7
  k_steps
  show wpP _ _ (execs _ _) _ _ _
  (with_reducible rename Fr _ _ _ _ => F5)
  (with_reducible rename News _ _ _ _ => N5)
  (with_reducible rename Obj.data _ = Data.cell (some (Value.bytes _ _)) => d8)
  exact rest5 w loose mean mg mb _ _ _ _ _ _ hb0 hs0 fa cd s₁ _ _ _ b8 t8 ut dr m _ _ _ _ _ v4 v5 _ dv9 b9 X T e6 (ord_range hp9 m1 m4) d1 d9 d8 d4 d5 hD9 F5 (news_sub N5 (by kcf_all))

set_option maxHeartbeats 8000000 in
theorem law1 : PySem.Challenge.rw_ic0001_01.Holds := by
  refine Mine.hd ?_
  w_top off
  k_fill
  k_with_none
  k_with "execs cons" => (k_here; (with_reducible show wpAny _ _ _ _ _ { heap := _, gens := _, drawn := _, toks := _ + 1 + 1, os := _ }); refine gen_toks (fun tk => ?_))
  k_with "execs nil" => (k_here; (with_reducible show wpAny _ _ _ _ _ { heap := _, gens := _, drawn := _, toks := _ + 1 + 1, os := _ }); refine gen_toks (fun tk => ?_))
  k_with "eval Name" => (k_here; (with_reducible show wpAny _ _ (eval (Expr.Name _ _) (envOfC _ _ _ _ _)) _ _ _); k_dflt (refine' nameX_C ?qw_N ?qw_c ?qw_m ?qw_d ?_ ?qw_a ?qw_b; (case qw_a => rfl); (case qw_b => rfl); (case qw_N => with_reducible assumption); (case qw_c => rfl); (case qw_m => kcf_m); (case qw_d => with_reducible assumption)))
  intro w s₀ s₁ mg mb G Y fa o pm cd doc dV kV ho hd hcd hD hmg hg args vals as hpre hlay hrd hwl hlo
  have KX := kIn_of Y
  refine Ground.open G ?_
  intro T B D TE TW
  clear B D TE TW
  wrow_args hpre hlay hrd hwl hlo
  refine wpP_mono (Q := LawOk s₁) (E := fun _ _ => False) ?_ (fun v s' g => ?_) (fun _ _ x => x.elim)
  · obtain rfl : dV = .none := hD.none rfl
    obtain rfl : kV = .none := hD.noKw
    unfold docDef at hd
    dsimp only at hd hcd
    have hdd : o.data = .func (fnOf _ _ _ _ _ .none .none doc pm none cd .none) := hd
    (with_reducible rename Heap.IsList _ _ _ => hl); (with_reducible rename IntsAre _ _ => hI); (rename (¬ (63 : Int) < _) => h63)
    rename_i ns _ _ _ _ _ _ _ l vs _ _ _ _ _ _
    replace h63 : ns.length ≤ 63 := by (first | lia | omega)
    refine enterCP T.nolimit ho hdd hcd (by decide) (BindsTo.of_eq rfl) rfl (by decide +kernel) rfl rfl rfl ?_
    intro h' tk' cells' F' N' Y'
    k_cells Y'
    (try dsimp only)
    clear hdd hd hD hmg ho hcd G Y hg
    refine execs_anyP ?_
    k_steps
    obtain ⟨m, hm, m1, m4⟩ : ∃ m : Nat, 1 + ns.sum.fmod 4 = (m : Int) ∧ 1 ≤ m ∧ m ≤ 4 := by
      have h4 : ns.sum.fmod 4 = ns.sum % 4 := Int.fmod_eq_emod_of_nonneg _ (by decide)
      refine ⟨(1 + ns.sum.fmod 4).toNat, ?_, ?_, ?_⟩ <;> (first | lia | omega)
    (with_reducible rename Obj.data _ = Data.cell (some (Value.int _ _)) => d1)
    (with_reducible rename Fr _ _ _ _ => F9)
    (with_reducible rename News _ _ _ _ => N9)
    rw [hm] at d1
    show wpP _ _ (execs _ _) _ _ _
    exact rest2 w _ _ mg mb _ _ _ rfl rfl fa cd s₁ _ _ _ _ l vs ns m _ _ _ _ _ none none none none KX T hl hI h63 rfl ⟨m1, m4⟩ (by (first | lia | omega)) d1 (by assumption) (by assumption) (by assumption) (by assumption) F9 N9
  · obtain ⟨rfl, keep, hg', ho'⟩ := g
    exact ⟨.inl ⟨_, _, [], rfl, fun cls => rfl, .bool true, by wrow_post, fun _ => ⟨List.nodup_nil, fun a ha => nomatch ha⟩⟩, .of_keep keep, ho', .of_eq (hg'.trans hg)⟩

end Mine

theorem PySem.Challenge.cw_ic0001_01_holds : PySem.Challenge.rw_ic0001_01.Holds :=
  Mine.law1
