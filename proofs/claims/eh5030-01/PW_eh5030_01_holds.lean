import PyProof.Rows.All
import Wide.All
import OpenK.AllK
import Wide.FinOn
import PySem.Challenge.RW_eh5030_01
open PySem PySem.W PyProof.Rows
set_option Elab.async false
set_option maxRecDepth 100000
set_option maxHeartbeats 8000000
open_top hd for PySem.Challenge.rw_eh5030_01
namespace Mine
open PySem PySem.Calls

noncomputable abbrev PG : Program := PySem.Challenge.rw_eh5030_01.row.prog
noncomputable abbrev KK (w : World) : Frag := hd.heap_39 w.params
noncomputable abbrev LO : List Str := looseW hd.view_39 [Str.ofString "AddressAndLengthFormatIdentifier", Str.ofString "MemoryLocation", Str.ofString "DynamicDidDefinition"]

/-- what stood outside the frame `L` and the addresses `ms` stands as it stood -/
def KeptA (ms : List Addr) (h h' : Heap) : Prop := ∀ b o, h.get? b = some o → b ∉ ms → h'.get? b = some o
def Kept (L : Addr) (ms : List Addr) (h h' : Heap) : Prop := ∀ b o, h.get? b = some o → b ≠ L → b ∉ ms → h'.get? b = some o

section
variable {prog : Program} {w : World} {A₀ A : Around} {s : Shared} {base h₀ : Heap} {outer : List Env} {L : Addr} {m : Str → Option Value} {env : Env} {news : List (Addr × Obj)} {K : Frag} {p : Program} {loose : List Str} {mean : ExcName → Option Value} {mg mb : Str → Option Value}
  {R : Result → Shared → Prop} {name qual : Str} {params : Arguments} {body : List Stmt} {scope : Scope} {dV kV doc pm cdv ct oc : Value} {an od : Option Addr} {osl : Array (Option Value)} {f : Addr} {args : Args} {binds : List (Str × Value)}

theorem enterK (B : Below A₀ base outer h₀) (F : Fr h₀ L s.heap m) (X₀ : K.In h₀) (N : News h₀ L s.heap news) (T : Top p loose mean mg mb h₀) (hA : A.frames = some (env :: outer)) (hf : env.frame = some L) (hke : env.scope.kind = .function)
    (ho : K.lookup f = some ⟨oc, od, .func (fnX name qual params body scope [] dV kV doc pm an cdv ct), osl⟩) (hcd : codeIn K cdv qual = true) (hroom : A.depth < recursionLimit)
    (hbind : BindsTo s (fnX name qual params body scope [] dV kV doc pm an cdv ct) args binds) (hloc : ∀ y ∈ binds, scope.names.lookup y.1 = some .local)
    (h : ∀ g L' h₁, KeptA (news.map (·.1)) s.heap g → s.heap.objs.size ≤ L' → Fr h₀ L g m → Fr g L' h₁ (fun y => binds.reverse.lookup y) → News g L' h₁ news → Below A base (env :: outer) g → K.In g → Top p loose mean mg mb g →
      wpAny (model prog w) (A.deeper (envX qual scope L' f cdv [])) (execs body (envX qual scope L' f cdv []))
        (fun fl s' => LeaveK h₀ L m g R (match fl with | .ret v => v | _ => .none) s')
        (fun e s' => wpAny (model prog w) (A.deeper (envX qual scope L' f cdv [])) (leaving (envX qual scope L' f cdv []) e) (fun _ s'' => R (.error e) s'') (fun e' s'' => R (.error e') s'') s')
        { s with heap := h₁, toks := s.toks + binds.length })
    (hcell : ∀ x ∈ scope.names, x.2 ≠ .cell) (hco : scope.isCoroutine = false := by rfl) (hgen : scope.isGenerator = false := by rfl) (hk : scope.kind = .function := by rfl) : codeAny (model prog w) A (.call (.ref f) args) R s := by
  obtain ⟨FG, BG, st, lv⟩ := groundX (R := R) B F N hA hf hke
  have X := X₀.keeps F.keep
  refine codeAny_call_def (fd := fnX name qual params body scope [] dV kV doc pm an cdv ct) (body := body) (binds := binds) hroom (X _ _ ho) rfl (T.nolimit.keeps F.keep) (codeRec_of X hcd) rfl hbind hcell hloc (fun h₁ hns hk₁ => ?_) hco hgen hk
  exact wpAny_mono (h _ s.heap.objs.size h₁ (fun b o e hb => hideAll_get _ e hb) (Nat.le_refl _) FG ⟨hns, fun b o e => hk₁ b o (of_hideAll _ e), Nat.le_of_eq (hideAll_size _ _)⟩
    (fun p hp => ⟨hk₁ _ _ (N p hp).1, Nat.ne_of_lt (Heap.lt_size (N p hp).1), hideAll_none _ (List.mem_map_of_mem hp)⟩) BG (X₀.keeps st) (T.keeps st)) (fun fl s' hl => lv _ _ hl) fun _ _ y => y
end
end Mine
namespace Mine
open PySem PySem.Calls

/-- back in the caller's frame: what was neither the frame's nor named stands as it stood -/
def Back (h₀ : Heap) (L : Addr) (m : Str → Option Value) (ms : List Addr) (h h' : Heap) : Prop := Fr h₀ L h' m ∧ Kept L ms h h'
theorem Back.fr {h₀ h h' : Heap} {L : Addr} {m : Str → Option Value} {ms : List Addr} (k : Back h₀ L m ms h h') : Fr h₀ L h' m := k.1
theorem back_of {h₀ g h h' : Heap} {L L' : Addr} {m m' : Str → Option Value} {ms : List Addr} (k : KeptA ms h g) (F : Fr h₀ L h' m) (F' : Fr g L' h' m') : Back h₀ L m ms h h' :=
  ⟨F, fun b o e _ hb => F'.keep b o (k b o e hb)⟩
theorem Back.news {h₀ h h' : Heap} {L : Addr} {m : Str → Option Value} {ms : List Addr} {news : List (Addr × Obj)} (k : Back h₀ L m ms h h') (N : News h₀ L h news) (hn : ∀ p ∈ news, p.1 ∉ ms) : News h₀ L h' news :=
  fun p hp => ⟨k.2 _ _ (N p hp).1 (N p hp).2.1 (hn p hp), (N p hp).2⟩
theorem Back.news0 {h₀ h h' : Heap} {L : Addr} {m : Str → Option Value} {news : List (Addr × Obj)} (k : Back h₀ L m [] h h') (N : News h₀ L h news) : News h₀ L h' news := k.news N (fun _ _ => List.not_mem_nil)
theorem back_led {h₀ g h h' : Heap} {L L' : Addr} {m m' : Str → Option Value} {ms : List Addr} {news news' : List (Addr × Obj)} (k : KeptA (news.map (·.1)) h g) (N : ∀ p ∈ news, h.get? p.1 = some p.2)
    (F : Fr h₀ L h' m) (F' : Fr g L' h' m') (N' : News g L' h' news') (hs : ∀ p ∈ news, p.1 ∈ ms ∨ p ∈ news') : Back h₀ L m ms h h' :=
  ⟨F, fun b o e hL hb => by
    by_cases hm : b ∈ news.map (·.1)
    · obtain ⟨p, hp, rfl⟩ := List.mem_map.mp hm
      rw [N p hp] at e
      cases e
      rcases hs p hp with q | q
      · exact absurd q hb
      · exact (N' p q).1
    · exact F'.keep b o (k b o e hm)⟩
theorem gets {h₀ h : Heap} {L : Addr} {news : List (Addr × Obj)} (N : News h₀ L h news) : ∀ p ∈ news, h.get? p.1 = some p.2 := fun p hp => (N p hp).1
theorem none_of_size {h : Heap} {b : Addr} (hb : h.objs.size ≤ b) : h.get? b = none := by
  cases q : h.get? b with
  | none => rfl
  | some o => exact absurd (Heap.lt_size q) (Nat.not_lt.mpr hb)
theorem back_new {h₀ g h h' : Heap} {L L' : Addr} {m m' : Str → Option Value} {ms : List Addr} {news news' : List (Addr × Obj)} (k : KeptA (news.map (·.1)) h g)
    (F : Fr h₀ L h' m) (F' : Fr g L' h' m') (N' : News g L' h' news') (hs : ∀ p ∈ news, h.get? p.1 = none ∨ p.1 ∈ ms ∨ (h.get? p.1 = some p.2 ∧ p ∈ news')) : Back h₀ L m ms h h' :=
  ⟨F, fun b o e hL hb => by
    by_cases hm : b ∈ news.map (·.1)
    · obtain ⟨p, hp, rfl⟩ := List.mem_map.mp hm
      rcases hs p hp with q | q | ⟨q, r⟩
      · rw [q] at e; cases e
      · exact absurd q hb
      · rw [q] at e; cases e; exact (N' p r).1
    · exact F'.keep b o (k b o e hm)⟩
theorem kept_ext {ms : List Addr} {h h' g : Heap} (x : ∀ b o, h.get? b = some o → h'.get? b = some o) (k : KeptA ms h' g) : KeptA ms h g := fun b o e hb => k b o (x b o e) hb
section
variable {prog : Program} {w : World} {A : Around} {E : Value → Shared → Prop} {s : Shared} {K : Frag} {C L : Addr} {h₀ : Heap} {m : Str → Option Value} {news : List (Addr × Obj)} {Q : Value → Shared → Prop}
theorem call_clsK {pos : List Value} {kw : List (Str × Value)} {fI : Addr} (F : Fr h₀ L s.heap m) (X₀ : K.In h₀) (N : News h₀ L s.heap news) (hm : makesIn K C = true) (hi : findIn K (.ref C) "__init__" = some (some (.ref fI))) (hf : isFn K (.ref fI) = true)
    (h : ∀ x dx h', (∀ b o, s.heap.get? b = some o → h'.get? b = some o) → s.heap.objs.size ≤ dx → dx < x → Fr h₀ L h' m → News h₀ L h' ((x, instObj C dx) :: (dx, dictOf [] 0) :: news) →
      codeAny (model prog w) (A.under (.builtin "type.__call__" ⟨.ref C :: pos, kw⟩)) (.call (.ref fI) ⟨.ref x :: pos, kw⟩) (InitBack x fun r s' => match r with | .ok (.ret v) => Q v s' | .ok _ => False | .error e => E e s') { s with heap := h' }) :
    wpAny (model prog w) A (call (.ref C) pos kw) Q E s := by
  refine wpAny_call ?_
  obtain ⟨hh, g, d, t, os⟩ := s
  have X := X₀.keeps F.keep
  refine make_core (makes_of X hm) (looks_findIn X hi) (fun self => bind_fn X self (beq_iff_eq.mp hf)) (.inl rfl) (h _ hh.objs.size _ (fun b o e => Heap.get?_push_of_some _ (Heap.get?_push_of_some _ e)) (Nat.le_refl _) (Nat.lt_succ_self _) ((F.push _).push _) ?_)
  have := (News.push F N emptyDict).push (F.push _) (instObj C hh.objs.size)
  rwa [Heap.size_push] at this
end
def Stop (P : Prop) : Prop := P
theorem Stop.mk {P : Prop} (h : Stop P) : P := h
theorem news_app {h₀ h : Heap} {L : Addr} {a b : List (Addr × Obj)} (x : News h₀ L h a) (y : News h₀ L h b) : News h₀ L h (a ++ b) := fun p hp => (List.mem_append.mp hp).elim (x p) (y p)
theorem news_lt {h₀ h : Heap} {L : Addr} {news : List (Addr × Obj)} {a : Addr} (N : News h₀ L h news) (hs : h.objs.size ≤ a) : ∀ p ∈ news, p.1 < a := fun p hp => Nat.lt_of_lt_of_le (Heap.lt_size (N p hp).1) hs
theorem dU (A : Around) (C : Addr) (vals : List Value) (kw : List (Str × Value)) : (A.under (.builtin "type.__call__" ⟨.ref C :: vals, kw⟩)).depth = A.depth + 1 := rfl
theorem uU (A : Around) (C : Addr) (vals : List Value) (kw : List (Str × Value)) : (A.under (.builtin "type.__call__" ⟨.ref C :: vals, kw⟩)).units = A.units + 1 := rfl
/-- an entry of an object's dict -/
abbrev ent (w : World) (n : Str) (t : Tok) (v : Value) : DictEntry := ⟨PyData.keyHash w.params n, .str n t, v⟩
abbrev alfEs (w : World) (t0 t1 : Tok) (ms af : Value) : List DictEntry := [ent w (Str.ofString "memorysize_format") t0 ms, ent w (Str.ofString "address_format") t1 af]
end Mine
namespace Mine
open PySem PySem.Calls PySem.Spec

/-- the eight widths -/
def e8 (x : Int) : Bool := x == 8 || x == 16 || x == 24 || x == 32 || x == 40 || x == 48 || x == 56 || x == 64
theorem e8_iff {x : Int} : e8 x = true ↔ x = 8 ∨ x = 16 ∨ x = 24 ∨ x = 32 ∨ x = 40 ∨ x = 48 ∨ x = 56 ∨ x = 64 := by
  simp [e8, or_assoc]
abbrev D8 : List (Int × PyData) := [(8, .int 1), (16, .int 2), (24, .int 3), (32, .int 4), (40, .int 5), (48, .int 6), (56, .int 7), (64, .int 8)]
abbrev D8' : List (PyData × PyData) := D8.map fun p => (PyData.int p.1, p.2)
theorem look8 {x : Int} (h : e8 x = true) : lookup (.int x) D8' = some (.int (x / 8)) := by
  rcases e8_iff.mp h with rfl | rfl | rfl | rfl | rfl | rfl | rfl | rfl <;> rfl
theorem look8_some {x : Int} : (lookup (.int x) D8').isSome = e8 x := by
  rw [KTD.lookup_keyed]
  simp only [KTD.datumAt, D8]
  unfold e8
  by_cases h1 : x = 8
  · subst h1; rfl
  by_cases h2 : x = 16
  · subst h2; rfl
  by_cases h3 : x = 24
  · subst h3; rfl
  by_cases h4 : x = 32
  · subst h4; rfl
  by_cases h5 : x = 40
  · subst h5; rfl
  by_cases h6 : x = 48
  · subst h6; rfl
  by_cases h7 : x = 56
  · subst h7; rfl
  by_cases h8 : x = 64
  · subst h8; rfl
  simp [h1, h2, h3, h4, h5, h6, h7, h8]

section
variable {w : World} {A : Around} {s : Shared} {h₀ : Heap} {L : Addr} {m : Str → Option Value} {Q E : Value → Shared → Prop}
theorem map57 {h : Heap} (X : (hd.heap_39 w.params).In h) : KTD.Keyed h 57 D8 := kt_keyed_in X (by kernel_rfl)
theorem map58 {h : Heap} (X : (hd.heap_39 w.params).In h) : KTD.Keyed h 58 D8 := kt_keyed_in X (by kernel_rfl)
theorem item57 {value slice : Expr} {x : Int} {t : Tok} (F : Fr h₀ L s.heap m) (X : (hd.heap_39 w.params).In h₀) (hx : e8 x = true) (h : ∀ t', Q (.int (x / 8) t') { s with toks := s.toks + 1 })
    (hs : subscripted slice false (.ref 57) (.int x t) = operate [.ref 57, .int x t] (getItem (.ref 57) (.int x t)) := by with_unfolding_all rfl) (hg : ∀ r, letTemporaryGo value (.ref 57) r = pure () := by intro _; with_unfolding_all rfl) :
    wpAny (model PySem.Challenge.rw_eh5030_01.row.prog w) A (subscriptTail value slice (.ref 57) (.int x t)) Q E s :=
  item_intTab ((map57 X).keep F.keep _ _) (look8 hx) (fun v hv => by obtain ⟨t', rfl⟩ := hv.int_inv; exact h t') hs hg
theorem item58 {value slice : Expr} {x : Int} {t : Tok} (F : Fr h₀ L s.heap m) (X : (hd.heap_39 w.params).In h₀) (hx : e8 x = true) (h : ∀ t', Q (.int (x / 8) t') { s with toks := s.toks + 1 })
    (hs : subscripted slice false (.ref 58) (.int x t) = operate [.ref 58, .int x t] (getItem (.ref 58) (.int x t)) := by with_unfolding_all rfl) (hg : ∀ r, letTemporaryGo value (.ref 58) r = pure () := by intro _; with_unfolding_all rfl) :
    wpAny (model PySem.Challenge.rw_eh5030_01.row.prog w) A (subscriptTail value slice (.ref 58) (.int x t)) Q E s :=
  item_intTab ((map58 X).keep F.keep _ _) (look8 hx) (fun v hv => by obtain ⟨t', rfl⟩ := hv.int_inv; exact h t') hs hg
theorem notin57 {x : Int} {t : Tok} (F : Fr h₀ L s.heap m) (X : (hd.heap_39 w.params).In h₀) (h : Q (.bool (!e8 x)) { s with toks := s.toks + 1 }) :
    wpAny (model PySem.Challenge.rw_eh5030_01.row.prog w) A (compareOp .NotIn (.int x t) (.ref 57)) Q E s :=
  notin_intTab ((map57 X).keep F.keep _ _) (by rw [look8_some]; exact h)
theorem notin58 {x : Int} {t : Tok} (F : Fr h₀ L s.heap m) (X : (hd.heap_39 w.params).In h₀) (h : Q (.bool (!e8 x)) { s with toks := s.toks + 1 }) :
    wpAny (model PySem.Challenge.rw_eh5030_01.row.prog w) A (compareOp .NotIn (.int x t) (.ref 58)) Q E s :=
  notin_intTab ((map58 X).keep F.keep _ _) (by rw [look8_some]; exact h)
end
end Mine
namespace Mine
open PySem PySem.Calls PySem.Spec
theorem kind_pack : builtinKind "_struct.pack" = none := by kernel_rfl
theorem plain_pack : plainId "_struct.pack" = true := by decide +kernel
theorem entry_pack : entryFor table "_struct.pack" = some Builtin.«_struct.pack» := entryFor_of_tree (by kernel_rfl)
theorem args_pack (a b : Value) : argsOk "_struct.pack" ⟨[a, b], []⟩ := by unfold argsOk; kernel_rfl

theorem mf_B (t : Tok) : Builtin.Struct.moduleFormat (.str (Str.ofString "B") t) = pure ⟨false, true, [⟨'B', 1, 0, 1⟩], 1, 1⟩ := by kernel_rfl
theorem mf_q (t : Tok) : Builtin.Struct.moduleFormat (.str (Str.ofString ">q") t) = pure ⟨true, false, [⟨'q', 1, 0, 8⟩], 8, 1⟩ := by kernel_rfl
section
variable {prog : Program} {w : World} {A : Around} {s : Shared} {Q E : Value → Shared → Prop}
/-- eight octets of a number, the greatest first -/
def be8 (n : Nat) : Array UInt8 := #[(n / 256 ^ 7 % 256).toUInt8, (n / 256 ^ 6 % 256).toUInt8, (n / 256 ^ 5 % 256).toUInt8, (n / 256 ^ 4 % 256).toUInt8, (n / 256 ^ 3 % 256).toUInt8, (n / 256 ^ 2 % 256).toUInt8, (n / 256 ^ 1 % 256).toUInt8, (n / 256 ^ 0 % 256).toUInt8]
theorem ib_q (i : Int) : Builtin.Struct.intBytes true 8 i = be8 (i % 2 ^ 64).toNat := by
  unfold Builtin.Struct.intBytes Builtin.Memoryview.toLittleEndian
  simp only [if_true, List.reverse_toArray]
  rfl
theorem pack_B {i : Int} {t u : Tok} (h0 : 0 ≤ i) (h1 : i < 256) (h : ∀ t', Q (.bytes #[i.toNat.toUInt8] t') { s with toks := s.toks + 1 }) : wpAny (model prog w) A (call (.builtin "_struct.pack") [.str (Str.ofString "B") t, .int i u]) Q E s := by
  refine Calls.call_function_entry kind_pack plain_pack entry_pack (args_pack _ _) ?_
  obtain ⟨hp, g, d, tk, os⟩ := s
  unfold Builtin.«_struct.pack»
  dsimp only
  rw [mf_B]
  unfold Builtin.Struct.packed Builtin.Struct.packEach
  simp only [Std.Legacy.Range.forIn_eq_forIn_range', Std.Legacy.Range.size, Nat.sub_zero, Nat.add_sub_cancel, Nat.div_one]
  repeat (first
    | with_reducible (first | refine wpAny_pure ?_ | refine wpAny_bind ?_ | refine wpAny_holding ?_ | refine wpAny_standAt ?_ | refine wpAny_point ?_ | refine wpAny_rule ?_ | refine wpAny_letGo ?_ | refine wpAny_fresh' ?_ | refine wpAny_alloc' ?_ | refine wpAny_attempt ?_)
    | ((with_reducible refine wpAny_ite_false ?c ?_); (case c => first | rfl | (simp [*]; done)))
    | ((with_reducible refine wpAny_ite_true ?c ?_); (case c => first | rfl | (simp [*]; done)))
    | wp_delta
    | with_reducible_and_instances refine wpAny_pure ?_
    | with_reducible_and_instances refine wpAny_bind ?_)
  have hc : (decide (i < if Char.isLower 'B' = true then -2 ^ (8 * 1 - 1) else 0) || decide (i > (if Char.isLower 'B' = true then 2 ^ (8 * 1 - 1) else 2 ^ (8 * 1)) - 1)) = false := by
    rw [if_neg (by decide), if_neg (by decide)]
    simp only [Bool.or_eq_false_iff, decide_eq_false_iff_not]
    omega
  refine wpAny_ite_false (decide_eq_false (by rw [show _ = false from hc]; exact Bool.false_ne_true)) ?_
  repeat (first
    | with_reducible (first | refine wpAny_pure ?_ | refine wpAny_bind ?_ | refine wpAny_holding ?_ | refine wpAny_standAt ?_ | refine wpAny_point ?_ | refine wpAny_rule ?_ | refine wpAny_letGo ?_ | refine wpAny_fresh' ?_ | refine wpAny_alloc' ?_ | refine wpAny_attempt ?_)
    | ((with_reducible refine wpAny_ite_false ?c ?_); (case c => first | rfl | (simp [*]; done)))
    | ((with_reducible refine wpAny_ite_true ?c ?_); (case c => first | rfl | (simp [*]; done)))
    | wp_delta
    | with_reducible_and_instances refine wpAny_pure ?_
    | with_reducible_and_instances refine wpAny_bind ?_)
  have e : ((i % 2 ^ (8 * 1)).toNat / 256 ^ 0 % 256).toUInt8 = i.toNat.toUInt8 := by
    congr 1
    have : i % 2 ^ (8 * 1) = i := Int.emod_eq_of_lt h0 (by omega)
    rw [this]
    omega
  have h' := h tk
  rw [← e] at h'
  exact ⟨_, rfl, h'⟩
theorem fin_bytes {M : Model} {P B : Array UInt8} {Q : Value → Shared → Prop} (hP : P = B) (hs : B.size ≤ sizeLine) (h : Q (.bytes B s.toks) { s with toks := s.toks + 1 }) :
    wpAny M A (if P.size > sizeLine then unsupported "bytes:memory" else do return .bytes P (← fresh)) (fun a s' => wpAny M A (ret a) (fun fin s' => ∃ v, fin = Fin.done (.ret v) ∧ Q v s') E s') E s := by
  subst hP
  rw [if_neg (Nat.not_lt.mpr hs)]
  exact wpAny_bind (wpAny_fresh (wpAny_pure (wpAny_pure ⟨_, rfl, h⟩)))
theorem pack_q {i : Int} {t u : Tok} (h0 : 0 ≤ i) (h1 : i < 2 ^ 63) (h : ∀ t', Q (.bytes (be8 i.toNat) t') { s with toks := s.toks + 1 }) : wpAny (model prog w) A (call (.builtin "_struct.pack") [.str (Str.ofString ">q") t, .int i u]) Q E s := by
  refine Calls.call_function_entry kind_pack plain_pack entry_pack (args_pack _ _) ?_
  obtain ⟨hp, g, d, tk, os⟩ := s
  unfold Builtin.«_struct.pack»
  dsimp only
  rw [mf_q]
  unfold Builtin.Struct.packed Builtin.Struct.packEach
  simp only [Std.Legacy.Range.forIn_eq_forIn_range', Std.Legacy.Range.size, Nat.sub_zero, Nat.add_sub_cancel, Nat.div_one]
  repeat (first
    | with_reducible (first | refine wpAny_pure ?_ | refine wpAny_bind ?_ | refine wpAny_holding ?_ | refine wpAny_standAt ?_ | refine wpAny_point ?_ | refine wpAny_rule ?_ | refine wpAny_letGo ?_ | refine wpAny_fresh' ?_ | refine wpAny_alloc' ?_ | refine wpAny_attempt ?_)
    | ((with_reducible refine wpAny_ite_false ?c ?_); (case c => first | rfl | (simp [*]; done)))
    | ((with_reducible refine wpAny_ite_true ?c ?_); (case c => first | rfl | (simp [*]; done)))
    | wp_delta
    | with_reducible_and_instances refine wpAny_pure ?_
    | with_reducible_and_instances refine wpAny_bind ?_)
  have hc : (decide (i < if Char.isLower 'q' = true then -2 ^ (8 * 8 - 1) else 0) || decide (i > (if Char.isLower 'q' = true then 2 ^ (8 * 8 - 1) else 2 ^ (8 * 8)) - 1)) = false := by
    rw [if_pos (by decide), if_pos (by decide)]
    simp only [Bool.or_eq_false_iff, decide_eq_false_iff_not]
    omega
  refine wpAny_ite_false (decide_eq_false (by rw [show _ = false from hc]; exact Bool.false_ne_true)) ?_
  repeat (first
    | with_reducible (first | refine wpAny_pure ?_ | refine wpAny_bind ?_ | refine wpAny_holding ?_ | refine wpAny_standAt ?_ | refine wpAny_point ?_ | refine wpAny_rule ?_ | refine wpAny_letGo ?_ | refine wpAny_fresh' ?_ | refine wpAny_alloc' ?_ | refine wpAny_attempt ?_)
    | ((with_reducible refine wpAny_ite_false ?c ?_); (case c => first | rfl | (simp [*]; done)))
    | ((with_reducible refine wpAny_ite_true ?c ?_); (case c => first | rfl | (simp [*]; done)))
    | wp_delta
    | with_reducible_and_instances refine wpAny_pure ?_
    | with_reducible_and_instances refine wpAny_bind ?_)
  have h' := h tk
  have e : i % 2 ^ 64 = i := Int.emod_eq_of_lt h0 (by omega)
  have e' := ib_q i
  rw [e] at e'
  have hex : ∃ a7 a6 a5 a4 a3 a2 a1 a0, be8 i.toNat = #[a7, a6, a5, a4, a3, a2, a1, a0] := ⟨_, _, _, _, _, _, _, _, rfl⟩
  obtain ⟨a7, a6, a5, a4, a3, a2, a1, a0, ha⟩ := hex
  rw [ha] at h' e'
  dsimp only
  rw [e']
  clear e' e hc ha
  have hz : ∀ P : Array UInt8, P = #[a7, a6, a5, a4, a3, a2, a1, a0] → wpAny (model prog w) A.in1 (if P.size > sizeLine then Sem.unsupported "bytes:memory" else do return .bytes P (← fresh)) (fun a s' => wpAny (model prog w) A.in1 (ret a) (fun fin s' => ∃ v, fin = Fin.done (.ret v) ∧ Q v s') E s') E ⟨hp, g, d, tk, os⟩ := by
    intro P hP
    exact fin_bytes hP (by show 8 ≤ sizeLine; rw [sizeLine_eq]; omega) h'
  with_reducible refine hz _ ?_
  kernel_rfl
end
theorem kind_unpack : builtinKind "_struct.unpack" = none := by kernel_rfl
theorem plain_unpack : plainId "_struct.unpack" = true := by decide +kernel
theorem entry_unpack : entryFor table "_struct.unpack" = some Builtin.«_struct.unpack» := entryFor_of_tree (by kernel_rfl)
theorem args_unpack (a b : Value) : argsOk "_struct.unpack" ⟨[a, b], []⟩ := by unfold argsOk; kernel_rfl
theorem bl_eq {id : String} {b : Array UInt8} {t : Tok} : Builtin.Bytes.bytesLike id (.bytes b t) = pure b := by
  unfold Builtin.Bytes.bytesLike
  rw [PySem.W.KBy.buffer_eq]
  rfl
section
variable {prog : Program} {w : World} {A : Around} {s : Shared} {Q E : Value → Shared → Prop} {h₀ : Heap} {L : Addr} {m : Str → Option Value} {news : List (Addr × Obj)}
theorem unpack_q {b : Array UInt8} {t u : Tok} (hb : b.size = 8) (F : Fr h₀ L s.heap m) (N : News h₀ L s.heap news) (hn : Builtin.Struct.natOf true (b.extract 0 8) < 2 ^ 63)
   (h : ∀ x h' t' tk, Fr h₀ L h' m → News h₀ L h' ((x, { cls := .type "tuple", data := .seq #[.int (Builtin.Struct.natOf true (b.extract 0 8) : Nat) t'] }) :: news) → Q (.ref x) { s with heap := h', toks := tk }) :
   wpAny (model prog w) A (call (.builtin "_struct.unpack") [.str (Str.ofString ">q") t, .bytes b u]) Q E s := by
  refine Calls.call_function_entry kind_unpack plain_unpack entry_unpack (args_unpack _ _) ?_
  unfold Builtin.«_struct.unpack»
  show wpAny _ _ (do noKeywords "_struct.unpack" ⟨[Value.str (Str.ofString ">q") t, Value.bytes b u], []⟩; checkCount "unpack" 2 2 2; let f ← Builtin.Struct.moduleFormat (.str (Str.ofString ">q") t); Builtin.Struct.unpackExact "_struct.unpack" (pure f) (.bytes b u)) _ _ _
  rw [mf_q]
  unfold Builtin.Struct.unpackExact Builtin.Struct.unpacked
  rw [bl_eq]
  simp only [Std.Legacy.Range.forIn_eq_forIn_range', Std.Legacy.Range.size, Nat.sub_zero, Nat.add_sub_cancel, Nat.div_one]
  repeat (first
    | with_reducible (first | refine wpAny_pure ?_ | refine wpAny_bind ?_ | refine wpAny_holding ?_ | refine wpAny_standAt ?_ | refine wpAny_point ?_ | refine wpAny_rule ?_ | refine wpAny_letGo ?_ | refine wpAny_fresh' ?_ | refine wpAny_alloc' ?_ | refine wpAny_attempt ?_)
    | ((with_reducible refine wpAny_ite_false ?c ?_); (case c => first | rfl | (simp [*]; done)))
    | ((with_reducible refine wpAny_ite_true ?c ?_); (case c => first | rfl | (simp [*]; done)))
    | wp_delta
    | with_reducible_and_instances refine wpAny_pure ?_
    | with_reducible_and_instances refine wpAny_bind ?_)
  refine ⟨_, rfl, ?_⟩
  dsimp only
  rw [if_neg (by simp only [Bool.and_eq_true, decide_eq_true_eq, not_and, Nat.not_le]; intro _; exact hn)]
  exact h _ _ _ _ (F.push _) (N.push F _)
end
end Mine
namespace Mine
open PySem PySem.Calls PySem.Spec
theorem rs_A3 : True := by w_top off; trivial
local macro_rules | `(tactic| ktr_enter) => `(tactic| (
  refine' enterK ?k1 ?k2 ?k3 ?k4 ?k5 ?kA ?kF ?kK ?k6 ?k7 ?k8 ?k9 ?kB ?_ ?c5 ?c2 ?c3 ?c4;
  (case kA => exact rfl); (case kF => exact rfl); (case kK => first | assumption | exact rfl); (case k1 => assumption); (case k2 => assumption); (case k3 => assumption); (case k4 => assumption); (case k5 => assumption);
  (case k6 => k_is); (case k7 => k_is); (case k8 => first | (simp only [recursionLimit]; omega) | ktr_room); (case k9 => first | exact BindsTo.of_eq rfl | exact binds_K (by k_in) rfl (by k_is) rfl rfl rfl); (case c5 => decide); (case kB => exact locs rfl); (case c2 => exact rfl); (case c3 => exact rfl); (case c4 => exact rfl)))
local macro_rules | `(tactic| walk_at "subscriptTail") => `(tactic| ((with_reducible show wpAny _ _ (subscriptTail _ _ (Value.ref 58) (Value.int _ _)) _ _ _); k_dflt (refine' item58 ?F ?X ?h ?_; (case F => k_asm); (case X => k_asm); (case h => assumption)); intro t'))
local macro_rules | `(tactic| walk_at "subscriptTail") => `(tactic| ((with_reducible show wpAny _ _ (subscriptTail _ _ (Value.ref 57) (Value.int _ _)) _ _ _); k_dflt (refine' item57 ?F ?X ?h ?_; (case F => k_asm); (case X => k_asm); (case h => assumption)); intro t'))
local macro_rules | `(tactic| walk_at "compareOp NotIn int ref") => `(tactic| ((with_reducible show wpAny _ _ (compareOp CmpOp.NotIn (Value.int _ _) (Value.ref 58)) _ _ _); k_dflt (refine' notin58 ?F ?X ?_; (case F => k_asm); (case X => k_asm))))
local macro_rules | `(tactic| walk_at "compareOp NotIn int ref") => `(tactic| ((with_reducible show wpAny _ _ (compareOp CmpOp.NotIn (Value.int _ _) (Value.ref 57)) _ _ _); k_dflt (refine' notin57 ?F ?X ?_; (case F => k_asm); (case X => k_asm))))
local macro_rules | `(tactic| walk_at "binaryOp LShift int int") => `(tactic| (refine lshift_int_small (by decide) (by decide) (by omega) ?_))
local macro_rules | `(tactic| walk_at "call builtin:_struct.pack") => `(tactic| ((with_reducible show wpAny _ _ (call (Value.builtin _) [Value.str _ _, Value.int _ _]) _ _ _); k_dflt (first | (refine' pack_B ?h0 ?h1 ?_; (case h0 => omega); (case h1 => omega)) | (refine' pack_q ?h0 ?h1 ?_; (case h0 => omega); (case h1 => omega))); intro t'))
local macro_rules | `(tactic| ktr_rel) => `(tactic| exact back_led (by assumption) (by assumption) (by assumption) (by assumption) (by assumption) (fun p hp => .inr hp))
local macro_rules | `(tactic| ktr_unf) => `(tactic| first | omega | ((try dsimp only [Around.deeper, Around.in1, Around.mark]); (try simp only [dU, uU]); (try dsimp only [ktrTop, Around.deeper, Around.in1, Around.mark]); omega))
local macro_rules | `(tactic| k_enter) => `(tactic| (ktr_enter; intro g' L' h' kg' lL' FG' F' N' B' X' T'; (try dsimp only); (try k_fold)))
local macro_rules | `(tactic| walk_at "call ref") => `(tactic| (k_here; k_dflt (refine' call_clsK ?k1 ?k2 ?k3 ?k4 ?k5 ?k6 ?_; (case k1 => k_asm); (case k2 => k_asm); (case k3 => k_asm); (case k4 => k_is); (case k5 => k_is); (case k6 => k_is); k_whole; intro x' d' h' x1 l1 l2 F' N'; (try ((have l9 := news_lt (by assumption) l1); (k_lt l9))); (try k_lt2 l1); (try k_lt2 l2); (try k_sweep); k_enter)))

theorem alfNum {x y : Int} (hx : e8 x = true) (hy : e8 y = true) : Builtin.bitAnd (Builtin.bitOr (x / 8 * 2 ^ Int.toNat 4) (y / 8)) 255 = x / 8 * 16 + y / 8 := by
  rcases e8_iff.mp hx with rfl | rfl | rfl | rfl | rfl | rfl | rfl | rfl <;> rcases e8_iff.mp hy with rfl | rfl | rfl | rfl | rfl | rfl | rfl | rfl <;> decide +kernel
theorem e8_bnd {x : Int} (hx : e8 x = true) : 1 ≤ x / 8 ∧ x / 8 ≤ 8 := by
  have := e8_iff.mp hx
  omega
section
variable {w : World} {A₀ : Around} {s : Shared} {base h₀ : Heap} {outer : List Env} {L : Addr} {m : Str → Option Value} {mean : ExcName → Option Value} {mg mb : Str → Option Value}
  {Q E : Value → Shared → Prop} {dp un : Nat} {gd : Option (List Code)} {cn : Str} {cs : Scope} {a : Addr} {ccd : Value} {cl : List (Str × Addr)}

theorem byte_int_ok {x dx : Addr} {t0 t1 : Tok} {ms af : Int} {t u : Tok} (B : Below A₀ base outer h₀) (F : Fr h₀ L s.heap m) (X : (hd.heap_39 w.params).In h₀) (T : Top hd.view_39 LO mean mg mb h₀)
   (hke : cs.kind = .function) (hdp : dp + 10 < 1000) (hun : un + 100 < 9900)
   (N : News h₀ L s.heap [(x, instObj 82 dx), (dx, dictOf (alfEs w t0 t1 (.int ms t) (.int af u)) 2)]) (hms : e8 ms = true) (haf : e8 af = true)
   (hQ : ∀ h' t' tk', Back h₀ L m [] s.heap h' → Q (.int (ms / 8 * 16 + af / 8) t') { s with heap := h', toks := tk' }) :
   wpAny (model PySem.Challenge.rw_eh5030_01.row.prog w) (ktrTop dp un gd cn cs L a ccd cl outer) (call (.ref 72) [.ref x]) Q E s := by
  refine wpAny_call ?_
  k_dflt ktr_enter
  have hN := gets N
  intro g L' h₁ kg lL FG F N B X T
  have hb := e8_bnd hms
  (try dsimp only); (try k_fold)
  k_steps
  rw [alfNum hms haf]
  exact hQ _ _ _ (back_led kg hN (by assumption) (by assumption) (by assumption) (fun p hp => .inr hp))
end
end Mine
namespace Mine
open PySem PySem.Calls PySem.Spec
theorem rs_A5 : True := by w_top off; trivial
local macro_rules | `(tactic| ktr_enter) => `(tactic| (
  refine' enterK ?k1 ?k2 ?k3 ?k4 ?k5 ?kA ?kF ?kK ?k6 ?k7 ?k8 ?k9 ?kB ?_ ?c5 ?c2 ?c3 ?c4;
  (case kA => exact rfl); (case kF => exact rfl); (case kK => first | assumption | exact rfl); (case k1 => assumption); (case k2 => assumption); (case k3 => assumption); (case k4 => assumption); (case k5 => assumption);
  (case k6 => k_is); (case k7 => k_is); (case k8 => first | (simp only [recursionLimit]; omega) | ktr_room); (case k9 => first | exact BindsTo.of_eq rfl | exact binds_K (by k_in) rfl (by k_is) rfl rfl rfl); (case c5 => decide); (case kB => exact locs rfl); (case c2 => exact rfl); (case c3 => exact rfl); (case c4 => exact rfl)))
local macro_rules | `(tactic| walk_at "subscriptTail") => `(tactic| ((with_reducible show wpAny _ _ (subscriptTail _ _ (Value.ref 58) (Value.int _ _)) _ _ _); k_dflt (refine' item58 ?F ?X ?h ?_; (case F => k_asm); (case X => k_asm); (case h => assumption)); intro t'))
local macro_rules | `(tactic| walk_at "subscriptTail") => `(tactic| ((with_reducible show wpAny _ _ (subscriptTail _ _ (Value.ref 57) (Value.int _ _)) _ _ _); k_dflt (refine' item57 ?F ?X ?h ?_; (case F => k_asm); (case X => k_asm); (case h => assumption)); intro t'))
local macro_rules | `(tactic| walk_at "compareOp NotIn int ref") => `(tactic| ((with_reducible show wpAny _ _ (compareOp CmpOp.NotIn (Value.int _ _) (Value.ref 58)) _ _ _); k_dflt (refine' notin58 ?F ?X ?_; (case F => k_asm); (case X => k_asm))))
local macro_rules | `(tactic| walk_at "compareOp NotIn int ref") => `(tactic| ((with_reducible show wpAny _ _ (compareOp CmpOp.NotIn (Value.int _ _) (Value.ref 57)) _ _ _); k_dflt (refine' notin57 ?F ?X ?_; (case F => k_asm); (case X => k_asm))))
local macro_rules | `(tactic| walk_at "binaryOp LShift int int") => `(tactic| (refine lshift_int_small (by decide) (by decide) (by omega) ?_))
local macro_rules | `(tactic| walk_at "call builtin:_struct.pack") => `(tactic| ((with_reducible show wpAny _ _ (call (Value.builtin _) [Value.str _ _, Value.int _ _]) _ _ _); k_dflt (first | (refine' pack_B ?h0 ?h1 ?_; (case h0 => omega); (case h1 => omega)) | (refine' pack_q ?h0 ?h1 ?_; (case h0 => omega); (case h1 => omega))); intro t'))
local macro_rules | `(tactic| ktr_rel) => `(tactic| exact back_led (by assumption) (by assumption) (by assumption) (by assumption) (by assumption) (fun p hp => .inr hp))
local macro_rules | `(tactic| ktr_unf) => `(tactic| first | omega | ((try dsimp only [Around.deeper, Around.in1, Around.mark]); (try simp only [dU, uU]); (try dsimp only [ktrTop, Around.deeper, Around.in1, Around.mark]); omega))
local macro_rules | `(tactic| k_enter) => `(tactic| (ktr_enter; intro g' L' h' kg' lL' FG' F' N' B' X' T'; (try dsimp only); (try k_fold)))
local macro_rules | `(tactic| walk_at "call ref") => `(tactic| (k_here; k_dflt (refine' call_clsK ?k1 ?k2 ?k3 ?k4 ?k5 ?k6 ?_; (case k1 => k_asm); (case k2 => k_asm); (case k3 => k_asm); (case k4 => k_is); (case k5 => k_is); (case k6 => k_is); k_whole; intro x' d' h' x1 l1 l2 F' N'; (try ((have l9 := news_lt (by assumption) l1); (k_lt l9))); (try k_lt2 l1); (try k_lt2 l2); (try k_sweep); k_enter)))

local macro_rules | `(tactic| walk_at "call ref") => `(tactic| ((try dsimp only [List.cons_append, List.nil_append]); (with_reducible show wpAny _ _ (call (Value.ref 72) [Value.ref _]) _ _ _); k_dflt (refine' byte_int_ok ?B ?F ?X ?T ?hk ?hd ?hu ?N ?h1 ?h2 ?_; (case B => k_asm); (case F => k_asm); (case X => k_asm); (case T => k_asm); (case hk => first | exact rfl | assumption); (case hd => ktr_unf); (case hu => ktr_unf); (case N => k_asm); (case h1 => assumption); (case h2 => assumption)); intro h9 t9 tk9 K9; (have N9 := K9.news0 (by assumption)); (have F9 := K9.fr)))
section
variable {w : World} {A₀ : Around} {s : Shared} {base h₀ : Heap} {outer : List Env} {L : Addr} {m : Str → Option Value} {mean : ExcName → Option Value} {mg mb : Str → Option Value}
  {Q E : Value → Shared → Prop} {dp un : Nat} {gd : Option (List Code)} {cn : Str} {cs : Scope} {a : Addr} {ccd : Value} {cl : List (Str × Addr)}

theorem byte_ok {x dx : Addr} {t0 t1 : Tok} {ms af : Int} {t u : Tok} (B : Below A₀ base outer h₀) (F : Fr h₀ L s.heap m) (X : (hd.heap_39 w.params).In h₀) (T : Top hd.view_39 LO mean mg mb h₀)
   (hke : cs.kind = .function) (hdp : dp + 20 < 1000) (hun : un + 200 < 9900)
   (N : News h₀ L s.heap [(x, instObj 82 dx), (dx, dictOf (alfEs w t0 t1 (.int ms t) (.int af u)) 2)]) (hms : e8 ms = true) (haf : e8 af = true)
   (hQ : ∀ h' t' tk', Back h₀ L m [] s.heap h' → Q (.bytes #[(ms / 8 * 16 + af / 8).toNat.toUInt8] t') { s with heap := h', toks := tk' }) :
   wpAny (model PySem.Challenge.rw_eh5030_01.row.prog w) (ktrTop dp un gd cn cs L a ccd cl outer) (call (.ref 79) [.ref x]) Q E s := by
  refine wpAny_call ?_
  k_dflt ktr_enter
  have hN := gets N
  intro g L' h₁ kg lL FG F N B X T
  have hb := e8_bnd hms
  have hb' := e8_bnd haf
  (try dsimp only); (try k_fold)
  k_steps
  exact hQ _ _ _ (by ktr_rel)
end
end Mine
namespace Mine
open PySem PySem.Calls PySem.Spec
theorem rs_A6 : True := by w_top off; trivial
local macro_rules | `(tactic| ktr_enter) => `(tactic| (
  refine' enterK ?k1 ?k2 ?k3 ?k4 ?k5 ?kA ?kF ?kK ?k6 ?k7 ?k8 ?k9 ?kB ?_ ?c5 ?c2 ?c3 ?c4;
  (case kA => exact rfl); (case kF => exact rfl); (case kK => first | assumption | exact rfl); (case k1 => assumption); (case k2 => assumption); (case k3 => assumption); (case k4 => assumption); (case k5 => assumption);
  (case k6 => k_is); (case k7 => k_is); (case k8 => first | (simp only [recursionLimit]; omega) | ktr_room); (case k9 => first | exact BindsTo.of_eq rfl | exact binds_K (by k_in) rfl (by k_is) rfl rfl rfl); (case c5 => decide); (case kB => exact locs rfl); (case c2 => exact rfl); (case c3 => exact rfl); (case c4 => exact rfl)))
local macro_rules | `(tactic| walk_at "subscriptTail") => `(tactic| ((with_reducible show wpAny _ _ (subscriptTail _ _ (Value.ref 58) (Value.int _ _)) _ _ _); k_dflt (refine' item58 ?F ?X ?h ?_; (case F => k_asm); (case X => k_asm); (case h => assumption)); intro t'))
local macro_rules | `(tactic| walk_at "subscriptTail") => `(tactic| ((with_reducible show wpAny _ _ (subscriptTail _ _ (Value.ref 57) (Value.int _ _)) _ _ _); k_dflt (refine' item57 ?F ?X ?h ?_; (case F => k_asm); (case X => k_asm); (case h => assumption)); intro t'))
local macro_rules | `(tactic| walk_at "compareOp NotIn int ref") => `(tactic| ((with_reducible show wpAny _ _ (compareOp CmpOp.NotIn (Value.int _ _) (Value.ref 58)) _ _ _); k_dflt (refine' notin58 ?F ?X ?_; (case F => k_asm); (case X => k_asm))))
local macro_rules | `(tactic| walk_at "compareOp NotIn int ref") => `(tactic| ((with_reducible show wpAny _ _ (compareOp CmpOp.NotIn (Value.int _ _) (Value.ref 57)) _ _ _); k_dflt (refine' notin57 ?F ?X ?_; (case F => k_asm); (case X => k_asm))))
local macro_rules | `(tactic| walk_at "binaryOp LShift int int") => `(tactic| (refine lshift_int_small (by decide) (by decide) (by omega) ?_))
local macro_rules | `(tactic| walk_at "call builtin:_struct.pack") => `(tactic| ((with_reducible show wpAny _ _ (call (Value.builtin _) [Value.str _ _, Value.int _ _]) _ _ _); k_dflt (first | (refine' pack_B ?h0 ?h1 ?_; (case h0 => omega); (case h1 => omega)) | (refine' pack_q ?h0 ?h1 ?_; (case h0 => omega); (case h1 => omega))); intro t'))
local macro_rules | `(tactic| ktr_rel) => `(tactic| exact back_led (by assumption) (by assumption) (by assumption) (by assumption) (by assumption) (fun p hp => .inr hp))
local macro_rules | `(tactic| ktr_unf) => `(tactic| first | omega | ((try dsimp only [Around.deeper, Around.in1, Around.mark]); (try simp only [dU, uU]); (try dsimp only [ktrTop, Around.deeper, Around.in1, Around.mark]); omega))
local macro_rules | `(tactic| k_enter) => `(tactic| (ktr_enter; intro g' L' h' kg' lL' FG' F' N' B' X' T'; (try dsimp only); (try k_fold)))
local macro_rules | `(tactic| walk_at "call ref") => `(tactic| (k_here; k_dflt (refine' call_clsK ?k1 ?k2 ?k3 ?k4 ?k5 ?k6 ?_; (case k1 => k_asm); (case k2 => k_asm); (case k3 => k_asm); (case k4 => k_is); (case k5 => k_is); (case k6 => k_is); k_whole; intro x' d' h' x1 l1 l2 F' N'; (try ((have l9 := news_lt (by assumption) l1); (k_lt l9))); (try k_lt2 l1); (try k_lt2 l2); (try k_sweep); k_enter)))

theorem bits56 {v : Int} (h1 : 1 ≤ v) (h2 : v < 2 ^ 56) : 1 ≤ ((Builtin.Int.intBits v : Nat) : Int) ∧ ((Builtin.Int.intBits v : Nat) : Int) ≤ 56 := by
  have a := (PySem.intBits_le_iff (m := 56) (x := v)).mpr (by omega)
  have b : ¬ Builtin.Int.intBits v ≤ 0 := fun q => by
    have := (PySem.intBits_le_iff (m := 0) (x := v)).mp q
    omega
  omega
/-- how many octets a number asks -/
def octs (v : Int) : Int := (((Builtin.Int.intBits v : Nat) : Int) + 7) / 8
theorem octs_fmt {v : Int} : (((Builtin.Int.intBits v : Nat) : Int) + 7).fdiv 8 * 8 = 8 * octs v := by
  rw [Int.fdiv_eq_ediv_of_nonneg _ (by decide)]
  unfold octs
  omega
theorem octs_bnd {v : Int} (h1 : 1 ≤ v) (h2 : v < 2 ^ 56) : 1 ≤ octs v ∧ octs v ≤ 7 := by
  have := bits56 h1 h2
  unfold octs
  omega
theorem octs_e8 {v : Int} (h1 : 1 ≤ v) (h2 : v < 2 ^ 56) : e8 (8 * octs v) = true := by
  have := octs_bnd h1 h2
  rw [e8_iff]
  omega
section
variable {w : World} {A₀ : Around} {s : Shared} {base h₀ : Heap} {outer : List Env} {L : Addr} {m : Str → Option Value} {mean : ExcName → Option Value} {mg mb : Str → Option Value}
  {Q E : Value → Shared → Prop} {dp un : Nat} {gd : Option (List Code)} {cn : Str} {cs : Scope} {a : Addr} {ccd : Value} {cl : List (Str × Addr)}

theorem autosize_a_ok {x : Addr} {v : Int} {t : Tok} (B : Below A₀ base outer h₀) (F : Fr h₀ L s.heap m) (X : (hd.heap_39 w.params).In h₀) (T : Top hd.view_39 LO mean mg mb h₀)
   (hke : cs.kind = .function) (hdp : dp + 10 < 1000) (hun : un + 100 < 9900) (h1 : 1 ≤ v) (h2 : v < 2 ^ 56)
   (hQ : ∀ h' t' tk', Back h₀ L m [] s.heap h' → Q (.int (8 * octs v) t') { s with heap := h', toks := tk' }) :
   wpAny (model PySem.Challenge.rw_eh5030_01.row.prog w) (ktrTop dp un gd cn cs L a ccd cl outer) (call (.ref 116) [.ref x, .int v t]) Q E s := by
  refine wpAny_call ?_
  have N : News h₀ L s.heap [] := News.nil
  k_dflt ktr_enter
  have hN := gets N
  intro g L' h₁ kg lL FG F N B X T
  have hb := bits56 h1 h2
  (try dsimp only); (try k_fold)
  k_steps
  rw [octs_fmt]
  exact hQ _ _ _ (by ktr_rel)
theorem autosize_m_ok {x : Addr} {v : Int} {t : Tok} (B : Below A₀ base outer h₀) (F : Fr h₀ L s.heap m) (X : (hd.heap_39 w.params).In h₀) (T : Top hd.view_39 LO mean mg mb h₀)
   (hke : cs.kind = .function) (hdp : dp + 10 < 1000) (hun : un + 100 < 9900) (h1 : 1 ≤ v) (h2 : v < 2 ^ 56)
   (hQ : ∀ h' t' tk', Back h₀ L m [] s.heap h' → Q (.int (8 * octs v) t') { s with heap := h', toks := tk' }) :
   wpAny (model PySem.Challenge.rw_eh5030_01.row.prog w) (ktrTop dp un gd cn cs L a ccd cl outer) (call (.ref 123) [.ref x, .int v t]) Q E s := by
  refine wpAny_call ?_
  have N : News h₀ L s.heap [] := News.nil
  k_dflt ktr_enter
  have hN := gets N
  intro g L' h₁ kg lL FG F N B X T
  have hb := bits56 h1 h2
  (try dsimp only); (try k_fold)
  k_steps
  rw [octs_fmt]
  exact hQ _ _ _ (by ktr_rel)
end
end Mine
namespace Mine
open PySem PySem.Calls PySem.Spec
theorem rs_A7 : True := by w_top off; trivial
local macro_rules | `(tactic| walk_at "zz") => `(tactic| fail)
local macro_rules | `(tactic| ktr_enter) => `(tactic| (
  refine' enterK ?k1 ?k2 ?k3 ?k4 ?k5 ?kA ?kF ?kK ?k6 ?k7 ?k8 ?k9 ?kB ?_ ?c5 ?c2 ?c3 ?c4;
  (case kA => exact rfl); (case kF => exact rfl); (case kK => first | assumption | exact rfl); (case k1 => assumption); (case k2 => assumption); (case k3 => assumption); (case k4 => assumption); (case k5 => assumption);
  (case k6 => k_is); (case k7 => k_is); (case k8 => first | (simp only [recursionLimit]; omega) | ktr_room); (case k9 => first | exact BindsTo.of_eq rfl | exact binds_K (by k_in) rfl (by k_is) rfl rfl rfl); (case c5 => decide); (case kB => exact locs rfl); (case c2 => exact rfl); (case c3 => exact rfl); (case c4 => exact rfl)))
local macro_rules | `(tactic| walk_at "subscriptTail") => `(tactic| ((with_reducible show wpAny _ _ (subscriptTail _ _ (Value.ref 58) (Value.int _ _)) _ _ _); k_dflt (refine' item58 ?F ?X ?h ?_; (case F => k_asm); (case X => k_asm); (case h => assumption)); intro t'))
local macro_rules | `(tactic| walk_at "subscriptTail") => `(tactic| ((with_reducible show wpAny _ _ (subscriptTail _ _ (Value.ref 57) (Value.int _ _)) _ _ _); k_dflt (refine' item57 ?F ?X ?h ?_; (case F => k_asm); (case X => k_asm); (case h => assumption)); intro t'))
local macro_rules | `(tactic| walk_at "compareOp NotIn int ref") => `(tactic| ((with_reducible show wpAny _ _ (compareOp CmpOp.NotIn (Value.int _ _) (Value.ref 58)) _ _ _); k_dflt (refine' notin58 ?F ?X ?_; (case F => k_asm); (case X => k_asm))))
local macro_rules | `(tactic| walk_at "compareOp NotIn int ref") => `(tactic| ((with_reducible show wpAny _ _ (compareOp CmpOp.NotIn (Value.int _ _) (Value.ref 57)) _ _ _); k_dflt (refine' notin57 ?F ?X ?_; (case F => k_asm); (case X => k_asm))))
local macro_rules | `(tactic| walk_at "binaryOp LShift int int") => `(tactic| (refine lshift_int_small (by decide) (by decide) (by omega) ?_))
local macro_rules | `(tactic| walk_at "call builtin:_struct.pack") => `(tactic| ((with_reducible show wpAny _ _ (call (Value.builtin _) [Value.str _ _, Value.int _ _]) _ _ _); k_dflt (first | (refine' pack_B ?h0 ?h1 ?_; (case h0 => omega); (case h1 => omega)) | (refine' pack_q ?h0 ?h1 ?_; (case h0 => omega); (case h1 => omega))); intro t'))
local macro_rules | `(tactic| ktr_rel) => `(tactic| exact back_led (by assumption) (by assumption) (by assumption) (by assumption) (by assumption) (fun p hp => .inr hp))
local macro_rules | `(tactic| ktr_unf) => `(tactic| first | omega | ((try dsimp only [Around.deeper, Around.in1, Around.mark]); (try simp only [dU, uU]); (try dsimp only [ktrTop, Around.deeper, Around.in1, Around.mark]); omega))
local macro_rules | `(tactic| k_enter) => `(tactic| (ktr_enter; intro g' L' h' kg' lL' FG' F' N' B' X' T'; (try dsimp only); (try k_fold)))
local macro_rules | `(tactic| walk_at "call ref") => `(tactic| (k_here; k_dflt (refine' call_clsK ?k1 ?k2 ?k3 ?k4 ?k5 ?k6 ?_; (case k1 => k_asm); (case k2 => k_asm); (case k3 => k_asm); (case k4 => k_is); (case k5 => k_is); (case k6 => k_is); k_whole; intro x' d' h' x1 l1 l2 F' N'; (try ((have l9 := news_lt (by assumption) l1); (k_lt l9))); (try k_lt2 l1); (try k_lt2 l2); (try k_sweep); k_enter)))

section
variable {w : World} {A₀ : Around} {s : Shared} {base h₀ : Heap} {outer : List Env} {L : Addr} {m : Str → Option Value} {mean : ExcName → Option Value} {mg mb : Str → Option Value}
  {Q E : Value → Shared → Prop} {dp un : Nat} {gd : Option (List Code)} {cn : Str} {cs : Scope} {a : Addr} {ccd : Value} {cl : List (Str × Addr)}

theorem mkAlf_ok {ms af : Int} {t u : Tok} (B : Below A₀ base outer h₀) (F : Fr h₀ L s.heap m) (X : (hd.heap_39 w.params).In h₀) (T : Top hd.view_39 LO mean mg mb h₀)
   (hke : cs.kind = .function) (hdp : dp + 20 < 1000) (hun : un + 200 < 9900) (hms : e8 ms = true) (haf : e8 af = true)
   (hQ : ∀ x dx t0 t1 h' tk', Back h₀ L m [] s.heap h' → s.heap.objs.size ≤ dx → dx < x → News h₀ L h' [(x, instObj 82 dx), (dx, dictOf (alfEs w t0 t1 (.int ms t) (.int af u)) 2)] → Q (.ref x) { s with heap := h', toks := tk' }) :
   wpAny (model PySem.Challenge.rw_eh5030_01.row.prog w) (ktrTop dp un gd cn cs L a ccd cl outer) (call (.ref 82) [] [(Str.ofString "memorysize_format", .int ms t), (Str.ofString "address_format", .int af u)]) Q E s := by
  have hn1 : (!e8 ms) = false := by rw [hms]; rfl
  have hn2 : (!e8 af) = false := by rw [haf]; rfl
  have N : News h₀ L s.heap [] := News.nil
  (try dsimp only); (try k_fold)
  k_steps
  exact hQ _ _ _ _ _ _ (back_new (kept_ext (by assumption) (by assumption)) (by assumption) (by assumption) (by assumption) (List.forall_mem_cons.mpr ⟨.inl (none_of_size (by omega)), List.forall_mem_cons.mpr ⟨.inl (none_of_size (by assumption)), List.forall_mem_nil _⟩⟩)) (by omega) (by omega) (by assumption)
end
end Mine
namespace Mine
open PySem PySem.Calls PySem.Spec
theorem rs_A8 : True := by w_top off; trivial
local macro_rules | `(tactic| walk_at "zz") => `(tactic| fail)
local macro_rules | `(tactic| walk_at "zz") => `(tactic| fail)
local macro_rules | `(tactic| ktr_enter) => `(tactic| (
  refine' enterK ?k1 ?k2 ?k3 ?k4 ?k5 ?kA ?kF ?kK ?k6 ?k7 ?k8 ?k9 ?kB ?_ ?c5 ?c2 ?c3 ?c4;
  (case kA => exact rfl); (case kF => exact rfl); (case kK => first | assumption | exact rfl); (case k1 => assumption); (case k2 => assumption); (case k3 => assumption); (case k4 => assumption); (case k5 => assumption);
  (case k6 => k_is); (case k7 => k_is); (case k8 => first | (simp only [recursionLimit]; omega) | ktr_room); (case k9 => first | exact BindsTo.of_eq rfl | exact binds_K (by k_in) rfl (by k_is) rfl rfl rfl); (case c5 => decide); (case kB => exact locs rfl); (case c2 => exact rfl); (case c3 => exact rfl); (case c4 => exact rfl)))
local macro_rules | `(tactic| walk_at "subscriptTail") => `(tactic| ((with_reducible show wpAny _ _ (subscriptTail _ _ (Value.ref 58) (Value.int _ _)) _ _ _); k_dflt (refine' item58 ?F ?X ?h ?_; (case F => k_asm); (case X => k_asm); (case h => assumption)); intro t'))
local macro_rules | `(tactic| walk_at "subscriptTail") => `(tactic| ((with_reducible show wpAny _ _ (subscriptTail _ _ (Value.ref 57) (Value.int _ _)) _ _ _); k_dflt (refine' item57 ?F ?X ?h ?_; (case F => k_asm); (case X => k_asm); (case h => assumption)); intro t'))
local macro_rules | `(tactic| walk_at "compareOp NotIn int ref") => `(tactic| ((with_reducible show wpAny _ _ (compareOp CmpOp.NotIn (Value.int _ _) (Value.ref 58)) _ _ _); k_dflt (refine' notin58 ?F ?X ?_; (case F => k_asm); (case X => k_asm))))
local macro_rules | `(tactic| walk_at "compareOp NotIn int ref") => `(tactic| ((with_reducible show wpAny _ _ (compareOp CmpOp.NotIn (Value.int _ _) (Value.ref 57)) _ _ _); k_dflt (refine' notin57 ?F ?X ?_; (case F => k_asm); (case X => k_asm))))
local macro_rules | `(tactic| walk_at "binaryOp LShift int int") => `(tactic| (refine lshift_int_small (by decide) (by decide) (by omega) ?_))
local macro_rules | `(tactic| walk_at "call builtin:_struct.pack") => `(tactic| ((with_reducible show wpAny _ _ (call (Value.builtin _) [Value.str _ _, Value.int _ _]) _ _ _); k_dflt (first | (refine' pack_B ?h0 ?h1 ?_; (case h0 => omega); (case h1 => omega)) | (refine' pack_q ?h0 ?h1 ?_; (case h0 => omega); (case h1 => omega))); intro t'))
local macro_rules | `(tactic| ktr_rel) => `(tactic| exact back_led (by assumption) (by assumption) (by assumption) (by assumption) (by assumption) (fun p hp => .inr hp))
local macro_rules | `(tactic| ktr_unf) => `(tactic| first | omega | ((try dsimp only [Around.deeper, Around.in1, Around.mark]); (try simp only [dU, uU]); (try dsimp only [ktrTop, Around.deeper, Around.in1, Around.mark]); omega))
local macro_rules | `(tactic| k_enter) => `(tactic| (ktr_enter; intro g' L' h' kg' lL' FG' F' N' B' X' T'; (try dsimp only); (try k_fold)))
local macro_rules | `(tactic| walk_at "call ref") => `(tactic| (k_here; k_dflt (refine' call_clsK ?k1 ?k2 ?k3 ?k4 ?k5 ?k6 ?_; (case k1 => k_asm); (case k2 => k_asm); (case k3 => k_asm); (case k4 => k_is); (case k5 => k_is); (case k6 => k_is); k_whole; intro x' d' h' x1 l1 l2 F' N'; (try ((have l9 := news_lt (by assumption) l1); (k_lt l9))); (try k_lt2 l1); (try k_lt2 l2); (try k_sweep); k_enter)))

/-- a width that may be none -/
abbrev vO (x : Option Int) (t : Tok) : Value := match x with
  | none => .none
  | some i => .int i t
theorem handed_vO {x : Option Int} {t : Tok} : handedIn (vO x t) = true := by cases x <;> rfl
section
variable {prog : Program} {w : World} {A : Around} {E : Value → Shared → Prop} {s : Shared} {Q : Value → Shared → Prop} {x : Option Int} {t : Tok}
theorem isNot_vO (h : Q (.bool x.isSome) s) : wpAny (model prog w) A (compareOp .IsNot (vO x t) .none) Q E s := by
  cases x with
  | none => exact wpAny_isNot_self rfl h
  | some i => exact wpAny_isNot_other rfl (fun e => nomatch e) h
theorem is_vO (h : Q (.bool x.isNone) s) : wpAny (model prog w) A (compareOp .Is (vO x t) .none) Q E s := by
  cases x with
  | none => exact wpAny_is_self rfl h
  | some i => exact wpAny_is_other rfl (fun e => nomatch e) h
end
abbrev locEs (w : World) (t0 t1 t2 t3 t4 : Tok) (a s af mf al : Value) : List DictEntry :=
  [ent w (Str.ofString "address") t0 a, ent w (Str.ofString "memorysize") t1 s, ent w (Str.ofString "address_format") t2 af, ent w (Str.ofString "memorysize_format") t3 mf, ent w (Str.ofString "alfid") t4 al]
section
variable {M : Model} {A : Around} {E : Value → Shared → Prop} {s : Shared} {env : Env} {st : Stmt} {rest : List Stmt} {Q : Flow → Shared → Prop} {h₀ : Heap} {L : Addr} {m : Str → Option Value}
theorem join1 (news' : Tok → List (Addr × Obj)) (F : Fr h₀ L s.heap m)
    (h1 : wpAny M A (exec st env) (fun f s' => Stop (f = .next ∧ ∃ h' tk t', s' = { s with heap := h', toks := tk } ∧ Fr h₀ L h' m ∧ News h₀ L h' (news' t'))) E s)
    (h2 : ∀ h' tk t', Fr h₀ L h' m → News h₀ L h' (news' t') → wpAny M A (execs rest env) Q E { s with heap := h', toks := tk }) : wpAny M A (execs (st :: rest) env) Q E s := by
  refine wpAny_execs_cons (wpAny_mono h1 (fun f s' x => ?_) fun _ _ y => y)
  obtain ⟨rfl, h', tk, t', rfl, F', N'⟩ := x
  exact h2 h' tk t' F' N'
theorem end1 {news' : Tok → List (Addr × Obj)} {h' : Heap} {tk t' : Nat} (F : Fr h₀ L h' m) (N : News h₀ L h' (news' t')) :
    Stop (Flow.next = .next ∧ ∃ h'' tk t', { s with heap := h', toks := tk } = { s with heap := h'', toks := tk } ∧ Fr h₀ L h'' m ∧ News h₀ L h'' (news' t')) := ⟨rfl, h', tk, t', rfl, F, N⟩
theorem join2 (y : Str) (v : Int) (news : List (Addr × Obj)) (F : Fr h₀ L s.heap m)
    (h1 : wpAny M A (exec st env) (fun f s' => Stop (f = .next ∧ ∃ h' tk t', s' = { s with heap := h', toks := tk } ∧ Fr h₀ L h' (fun z => if z = y then some (.int v t') else m z) ∧ News h₀ L h' news)) E s)
    (h2 : ∀ h' tk t', Fr h₀ L h' (fun z => if z = y then some (.int v t') else m z) → News h₀ L h' news → wpAny M A (execs rest env) Q E { s with heap := h', toks := tk }) : wpAny M A (execs (st :: rest) env) Q E s := by
  refine wpAny_execs_cons (wpAny_mono h1 (fun f s' x => ?_) fun _ _ y => y)
  obtain ⟨rfl, h', tk, t', rfl, F', N'⟩ := x
  exact h2 h' tk t' F' N'
end
theorem or1 {x y : Option Int} (h : x.isNone = true) : x.or y = y := by cases x <;> first | rfl | cases h
theorem or2 {x y : Option Int} (h : x.isNone = false) : x.or y = x := by cases x <;> first | rfl | cases h
theorem or3 {x y : Option Int} (h : y.isSome = false) : x.or y = x := by cases y <;> cases x <;> first | rfl | cases h
/-- the widths that are in force -/
abbrev fA (low : Option Int) (a : Int) : Int := low.getD (8 * octs a)
theorem e8_fA {low : Option Int} {a : Int} (hl : ∀ x, low = some x → e8 x = true) (h1 : 1 ≤ a) (h2 : a < 2 ^ 56) : e8 (fA low a) = true := by
  cases low with
  | none => exact octs_e8 h1 h2
  | some x => exact hl x rfl
local macro_rules | `(tactic| walk_at "call ref") => `(tactic| ((try dsimp only [List.cons_append, List.nil_append]); (with_reducible show wpAny _ _ (call (Value.ref 82) [] _) _ _ _); k_dflt (refine' mkAlf_ok ?B ?F ?X ?T ?hk ?hd ?hu ?h1 ?h2 ?_; (case B => k_asm); (case F => k_asm); (case X => k_asm); (case T => k_asm); (case hk => first | exact rfl | assumption); (case hd => ktr_unf); (case hu => ktr_unf); (case h1 => assumption); (case h2 => assumption)); intro x9 dx9 ta9 tb9 h9 tk9 K9 sd9 sx9 NN9; (have l9 := news_lt (by assumption) sd9); (k_lt l9); (have N9 := news_app NN9 (K9.news0 (by assumption))); (simp only [List.cons_append, List.nil_append] at N9); (have F9 := K9.fr)))
local macro_rules | `(tactic| walk_at "call ref") => `(tactic| ((try dsimp only [List.cons_append, List.nil_append]); (with_reducible show wpAny _ _ (call (Value.ref 116) [Value.ref _, Value.int _ _]) _ _ _); k_dflt (refine' autosize_a_ok ?B ?F ?X ?T ?hk ?hd ?hu ?h1 ?h2 ?_; (case B => k_asm); (case F => k_asm); (case X => k_asm); (case T => k_asm); (case hk => first | exact rfl | assumption); (case hd => ktr_unf); (case hu => ktr_unf); (case h1 => assumption); (case h2 => assumption)); intro h9 t9 tk9 K9; (have N9 := K9.news0 (by assumption)); (have F9 := K9.fr)))
local macro_rules | `(tactic| walk_at "call ref") => `(tactic| ((try dsimp only [List.cons_append, List.nil_append]); (with_reducible show wpAny _ _ (call (Value.ref 123) [Value.ref _, Value.int _ _]) _ _ _); k_dflt (refine' autosize_m_ok ?B ?F ?X ?T ?hk ?hd ?hu ?h1 ?h2 ?_; (case B => k_asm); (case F => k_asm); (case X => k_asm); (case T => k_asm); (case hk => first | exact rfl | assumption); (case hd => ktr_unf); (case hu => ktr_unf); (case h1 => assumption); (case h2 => assumption)); intro h9 t9 tk9 K9; (have N9 := K9.news0 (by assumption)); (have F9 := K9.fr)))
section
variable {w : World} {A₀ : Around} {s : Shared} {base h₀ : Heap} {outer : List Env} {L : Addr} {m : Str → Option Value} {mean : ExcName → Option Value} {mg mb : Str → Option Value}
  {Q E : Value → Shared → Prop} {dp un : Nat} {gd : Option (List Code)} {cn : Str} {cs : Scope} {a : Addr} {ccd : Value} {cl : List (Str × Addr)}

theorem mkLoc_ok {ad sz : Int} {low high : Option Int} {ta ts tl th : Tok} (B : Below A₀ base outer h₀) (F : Fr h₀ L s.heap m) (X : (hd.heap_39 w.params).In h₀) (T : Top hd.view_39 LO mean mg mb h₀)
   (hke : cs.kind = .function) (hdp : dp + 30 < 1000) (hun : un + 300 < 9900) (ha1 : 1 ≤ ad) (ha2 : ad < 2 ^ 56) (hs1 : 1 ≤ sz) (hs2 : sz < 2 ^ 56) (hl : ∀ x, low = some x → e8 x = true) (hh : ∀ x, high = some x → e8 x = true)
   (hQ : ∀ x dx al dal t0 t1 t2 t3 t4 t5 t6 u v h' tk', Back h₀ L m [] s.heap h' → s.heap.objs.size ≤ dx → dx < x → x < dal → dal < al →
      News h₀ L h' [(al, instObj 82 dal), (dal, dictOf (alfEs w t5 t6 (.int (fA high sz) u) (.int (fA low ad) v)) 2), (x, instObj 157 dx), (dx, dictOf (locEs w t0 t1 t2 t3 t4 (.int ad ta) (.int sz ts) (vO low tl) (vO high th) (.ref al)) 5)] → Q (.ref x) { s with heap := h', toks := tk' }) :
   wpAny (model PySem.Challenge.rw_eh5030_01.row.prog w) (ktrTop dp un gd cn cs L a ccd cl outer) (call (.ref 157) [.int ad ta, .int sz ts, vO low tl, vO high th] []) Q E s := by
  have hx1 := octs_e8 ha1 ha2
  have hx2 := octs_e8 hs1 hs2
  have N : News h₀ L s.heap [] := News.nil
  cases low <;> cases high
  all_goals
    (try (have hl' := hl _ rfl))
    (try (have hh' := hh _ rfl))
    (try dsimp only); (try k_fold)
    k_steps
    refine' hQ _ _ _ _ _ _ _ _ _ _ _ _ _ _ _ ?bk ?o1 ?o2 ?o3 ?o4 ?nn
    case nn => assumption
    case o1 => omega
    case o2 => omega
    case o3 => omega
    case o4 => omega
    case bk => exact back_new (kept_ext (by assumption) (by assumption)) (by assumption) (by assumption) (by assumption) (List.forall_mem_cons.mpr ⟨.inl (none_of_size (by omega)), List.forall_mem_cons.mpr ⟨.inl (none_of_size (by assumption)), List.forall_mem_nil _⟩⟩)
end
end Mine
namespace Mine
open PySem PySem.Calls PySem.Spec
section
variable {prog : Program} {w : World} {A : Around} {E : Value → Shared → Prop} {s : Shared} {Q : Value → Shared → Prop} {C : Addr}
theorem typeIs_K {K : Frag} (X : K.In s.heap) (e : typeIn K (.ref C) = some (.type "type")) : s.TypeIs (.ref C) "type" := by
  obtain ⟨o, ho, h⟩ := Option.map_eq_some_iff.mp e
  exact ⟨o, X _ _ ho, h⟩
theorem slot_type_ne : Slot "type" (cmpInfo .NotEq).2.1 "object.__ne__" :=
  .of (owner := "object") (n := "__ne__") (by rw [typeLookup_type, builtinLookup_eq_fast]; kernel_rfl) (by decide +kernel) (by decide +kernel) (by decide +kernel)
    (by first | exact .inl (by decide +kernel) | exact .inr (by decide +kernel)) (by rw [isSubtype_type]; kernel_rfl)
theorem eq_cls (hT : s.TypeIs (.ref C) "type") (hu : A.units < cLine) (h : Q (.bool true) s) : wpAny (model prog w) A (compareOp .Eq (.ref C) (.ref C)) Q E s := by
  show wpAny _ A (richCompare .Eq _ _) Q E s
  exact wpAny_richCompare_same_room hT hT TypeEq.slot_type_eq (wpAny_call_entry TypeEq.slot_type_eq hT F.entry_object_eq (objEq_entry_same ⟨_, rfl, (by intro e; cases e), h⟩) (F.args_object_eq_2 _ _)) hu
theorem ne_cls (hT : s.TypeIs (.ref C) "type") (hu : A.units + 1 < cLine) (h : Q (.bool false) s) : wpAny (model prog w) A (compareOp .NotEq (.ref C) (.ref C)) Q E s := by
  show wpAny _ A (richCompare .NotEq _ _) Q E s
  refine wpAny_richCompare_same_room hT hT slot_type_ne (wpAny_call_entry slot_type_ne hT F.cmpEntry_ne ?_ (F.cmpArgs_ne _ _)) (Nat.lt_of_succ_lt hu)
  unfold Builtin.«object.__ne__»
  have z : ∀ {R : Option Value → Shared → Prop}, R (some (.bool true)) s → wpAny (model prog w) A.in1 (callSpecialIfBound? (.ref C) "__eq__" [.ref C]) R E s := fun hR =>
    wpAny_callSpecialIfBound?_slot hT TypeEq.slot_type_eq (wpAny_call_entry TypeEq.slot_type_eq hT F.entry_object_eq (objEq_entry_same ⟨_, rfl, hR⟩) (F.args_object_eq_2 _ _))
  repeat (first | with_reducible refine wpAny_cRoomFor hu ?_ | with_reducible refine z ?_ | wp_step)
  exact ⟨_, rfl, (by intro e; cases e), h⟩
theorem noneEq : Gives (Builtin.«NoneType.__eq__» ⟨[.none, .ref C], []⟩) (.val (Value.notImplemented)) :=
  .of_wp fun M A E s Q h => by obtain ⟨hp, g, d, tk, os⟩ := s; wp_walk; exact ⟨_, rfl, h⟩
theorem eq_none_cls (hT : s.TypeIs (.ref C) "type") (hu : A.units < cLine) (h : Q (.bool false) s) : wpAny (model prog w) A (compareOp .Eq .none (.ref C)) Q E s := by
  have hN : s.TypeIs .none "NoneType" := rfl
  show wpAny _ A (richCompare .Eq _ _) Q E s
  rcases hi : cmpInfo CmpOp.Eq with ⟨sym, f, r⟩
  have h1 := F.slot_NoneType_eq
  have h2 := TypeEq.slot_type_eq_refl
  rw [hi] at h1 h2
  simp only [richCompare, hi, hN.oneThing_none]
  refine wpAny_holding ?_
  refine wpAny_bind (wpAny_cRoomFor_or (.inr hu) ?_)
  refine wpAny_bind (wpAny_typeOf hN (wpAny_bind (wpAny_typeOf hT ?_)))
  simp only [show (Value.type "NoneType" != Value.type "type") = true from rfl, if_true]
  refine wpAny_bind (wpAny_of_eq (show isSubtype (.type "type") (.type "NoneType") = pure false by rw [isSubtype_type]; kernel_rfl) ?_)
  simp only [Bool.false_eq_true, if_false, Bool.not_false, if_true]
  refine wpAny_bind (m := tryCompare _ _ _) (wpAny_tryCompare_declines hN h1 (call_gives F.slot_NoneType_eq hN F.entry_NoneType_eq (F.args_NoneType_eq_2 _ _) noneEq ⟨rfl, ?_⟩))
  have hne : (Value.none == Value.ref C) = false := rfl
  have c2 : ∀ {R : Value → Shared → Prop}, R .notImplemented s → wpAny (model prog w) A (call (.builtin "object.__eq__") [.ref C, .none]) R E s := fun hR => call_gives TypeEq.slot_type_eq_refl hT F.entry_object_eq (F.args_object_eq_2 _ _) (TypeEq.object_eq_other rfl rfl) hR
  refine wpAny_bind (m := tryCompare _ _ _) (wpAny_tryCompare_declines hT h2 (c2 ⟨rfl, ?_⟩))
  exact wpAny_bind (wpAny_rule (wpAny_bind (wpAny_isSame_plain rfl (wpAny_pure h))))
end
end Mine
namespace Mine
open PySem PySem.Calls PySem.Spec
section
variable {prog : Program} {w : World} {A : Around} {E : Value → Shared → Prop} {s : Shared} {g : Heap} {env : Env} {x : Str} {body : List Stmt} {Q : Flow → Shared → Prop} {m : Str → Option Value} {news : List (Addr × Obj)} {le : Addr} {its : Array Value} {n : Nat}
/-- one turn of a loop over a list that changes nothing of the ledger -/
def Turn (g : Heap) (L : Addr) (news : List (Addr × Obj)) (Jn : (Str → Option Value) → Prop) (s : Shared) (Q : Flow → Shared → Prop) (f : Flow) (s₂ : Shared) : Prop :=
  match f with
  | .ret v => Q (.ret v) s₂
  | .brk => Q .next s₂
  | _ => (f = .next ∨ f = .cont) ∧ ∃ h' tk m₂, s₂ = { s with heap := h', toks := tk } ∧ Fr g L h' m₂ ∧ News g L h' news ∧ Jn m₂
theorem forList {L : Addr} (hL : env.locals = L) (F : Fr g L s.heap m) (N : News g L s.heap news) (hle : (le, listOf its n) ∈ news) (hh : A.handled = none)
    (J : Nat → (Str → Option Value) → Prop) (h0 : J 0 m)
    (step : ∀ i v m₁ h tk own, i < its.size → its[i]? = some v → J i m₁ → Fr g L h (fun y => if y = x then some v else m₁ y) → News g L h (own ++ news) →
      wpAny (model prog w) A (execs body env) (Turn g L (own ++ news) (J (i + 1)) s Q) E { s with heap := h, toks := tk })
    (done : ∀ h tk m', Fr g L h m' → News g L h news → J its.size m' → Q .next { s with heap := h, toks := tk }) :
    wpAny (model prog w) A (pyIter (.ref le)) (fun it s₂ => LoopAtV prog w A g env x body Q E it s₂) E s := by
  subst hL
  have hl : s.heap.IsList le its := N.isList hle
  have hlt : ∀ p ∈ news, p.1 < s.heap.objs.size := fun p hp => Heap.lt_size (N p hp).1
  have hne : le ≠ s.heap.objs.size := Nat.ne_of_lt (hlt _ hle)
  have hg : g.get? s.heap.objs.size = none := by
    cases q : g.get? s.heap.objs.size with
    | none => rfl
    | some o => exact absurd (Heap.lt_size (F.keep _ _ q)) (Nat.lt_irrefl _)
  have hLlt : env.locals < s.heap.objs.size := F.ns.lt
  refine wpAny_pyIter_list hl ?_
  refine ⟨s.heap.objs.size, _, _, _, _, _, m, news, fun i m₁ news₁ => news₁ = news ∧ J i m₁, rfl, Walks.list hh _ le hne its, ?_, ?_, ?_, ⟨?_, ?_⟩, F.push _, News.pushKeep N _, ⟨rfl, h0⟩, ?_, ?_⟩
  · intro hm
    rcases List.mem_cons.mp hm with q | hm
    · exact absurd q (Nat.ne_of_lt hLlt)
    · exact (N _ hle).2.1 (List.mem_singleton.mp hm).symm
  · intro b hb
    rw [List.mem_singleton.mp hb]; exact hg
  · intro p hp hm
    exact absurd (List.mem_singleton.mp hm) (Nat.ne_of_lt (hlt p hp))
  · exact ⟨_, Heap.get?_push_size _ rfl, rfl, rfl⟩
  · obtain ⟨o, ho, r⟩ := hl
    exact ⟨o, Heap.get?_push_of_some _ ho, r⟩
  · rintro i v m₁ news₁ s₁ own ⟨h, tk, rfl⟩ hi hP ⟨rfl, hJ⟩ ha hf ho hfp st F₁ N₁
    refine wpAny_mono (step i v m₁ h tk own hi hP hJ F₁ N₁) (fun f s₂ h₂ => ?_) fun _ _ e => e
    cases f with
    | ret v => exact h₂
    | brk => exact h₂
    | next =>
      obtain ⟨_, h', tk', m₂, rfl, F₂, N₂, hJ₂⟩ := h₂
      exact ⟨rfl, h', tk', m₂, news₁, rfl, F₂, N₂, ha, rfl, hJ₂⟩
    | cont =>
      obtain ⟨_, h', tk', m₂, rfl, F₂, N₂, hJ₂⟩ := h₂
      exact ⟨rfl, h', tk', m₂, news₁, rfl, F₂, N₂, ha, rfl, hJ₂⟩
  · rintro h' tk m' news' F' N' _ ⟨rfl, hJ⟩
    exact done h' tk m' F' N' hJ
end
end Mine
namespace Mine
open PySem PySem.Calls PySem.Spec PySem.W.KPc
section
variable {prog : Program} {w : World} {A : Around} {E : Value → Shared → Prop} {s : Shared} {h₀ : Heap} {L a : Addr} {m : Str → Option Value} {news : List (Addr × Obj)} {D : List (Int × PyData)}
theorem getKeys {pl : Sem Bool} {Q : Value × List Value → Shared → Prop} (K : KTD.Keyed h₀ a D) (F : Fr h₀ L s.heap m) (h : Q (.builtin "dict.keys", [.ref a]) s) : wpAny (model prog w) A (getMethod (.ref a) "keys" pl) Q E s := by
  obtain ⟨_, kvs, ⟨o, es, ep, ho, hc, _⟩, _⟩ := K.keep F.keep prog w
  exact getMethod_builtin ⟨o, ho, hc.1⟩ PySem.F.plainAttrs_dict PySem.F.slot_dict_keys PySem.F.type_dict_keys (fun b e => by injection e with e; subst e; exact ⟨o, ho, hc.2.1⟩) h
theorem callKeys {Q : Value → Shared → Prop} (K : KTD.Keyed h₀ a D) (F : Fr h₀ L s.heap m) (N : News h₀ L s.heap news)
    (h : ∀ (v : Addr) h', Fr h₀ L h' m → News h₀ L h' ((v, { cls := .type "dict_keys", data := .fields #[.ref a] }) :: news) → (∀ q ∈ news, q.1 < v) → Q (.ref v) { s with heap := h' }) :
    wpAny (model prog w) A (call (.builtin "dict.keys") [.ref a]) Q E s := by
  obtain ⟨lo, kvs, hD, _⟩ := K.keep F.keep prog w
  exact call_meetsIn PySem.F.slot_dict_keys hD.typeIs PySem.F.entry_dict_keys (PySem.F.args_dict_keys_1 _) (kdl_meets_keys _ a lo) ⟨⟨kvs, hD⟩, h _ _ (F.push _) (News.push F N _) fun q hq => Heap.lt_size (N q hq).1⟩
abbrev V8 (a b c d e f g h : Tok) : List Value := [.int 8 a, .int 16 b, .int 24 c, .int 32 d, .int 40 e, .int 48 f, .int 56 g, .int 64 h]
abbrev P8 : List PyData := [.int 8, .int 16, .int 24, .int 32, .int 40, .int 48, .int 56, .int 64]
theorem listKeys {v : Addr} {Q : Value → Shared → Prop} (K : KTD.Keyed h₀ a D8) (hh : A.handled = none) (F : Fr h₀ L s.heap m) (N : News h₀ L s.heap news) (hv : (v, { cls := .type "dict_keys", data := .fields #[.ref a] }) ∈ news)
    (h : ∀ (B : Addr) c h' tk t1 t2 t3 t4 t5 t6 t7 t8, Fr h₀ L h' m → News h₀ L h' ((B, listOf (V8 t1 t2 t3 t4 t5 t6 t7 t8).toArray c) :: news) → (∀ q ∈ news, q.1 < B) → Q (.ref B) { s with heap := h', toks := tk }) :
    wpAny (model prog w) A (call (.type "list") [.ref v]) Q E s := by
  refine kdl_list_viewD (knd := PySem.intKind prog w) (enc := PyData.int) (fun k v hk => ?_) hh F N hv (K.keep F.keep prog w) (by decide) fun B c h' tk => ?_
  · obtain ⟨t, rfl⟩ : ∃ t, v = .int k t := by
      have hk' : Value.isInt k v = true := hk
      cases v <;> simp [Value.isInt] at hk'
      subst hk'; exact ⟨_, rfl⟩
    exact .int _ _
  · intro v1 f1 v2 f2 v3 f3 v4 f4 v5 f5 v6 f6 v7 f7 v8 f8 F' N' l1
    obtain ⟨t1, rfl⟩ := f1.int_inv
    obtain ⟨t2, rfl⟩ := f2.int_inv
    obtain ⟨t3, rfl⟩ := f3.int_inv
    obtain ⟨t4, rfl⟩ := f4.int_inv
    obtain ⟨t5, rfl⟩ := f5.int_inv
    obtain ⟨t6, rfl⟩ := f6.int_inv
    obtain ⟨t7, rfl⟩ := f7.int_inv
    obtain ⟨t8, rfl⟩ := f8.int_inv
    exact h B c h' tk _ _ _ _ _ _ _ _ F' N' l1
theorem reads8 {h : Heap} {B : Addr} {t1 t2 t3 t4 t5 t6 t7 t8 : Tok} {c : Nat} (hB : h.get? B = some (listOf (V8 t1 t2 t3 t4 t5 t6 t7 t8).toArray c)) : Reads h (.ref B) (.list P8) [B] :=
  .list hB rfl rfl (.cons (.int _ _) (.cons (.int _ _) (.cons (.int _ _) (.cons (.int _ _) (.cons (.int _ _) (.cons (.int _ _) (.cons (.int _ _) (.cons (.int _ _) .nil))))))))
end
end Mine
namespace Mine
open PySem PySem.Calls PySem.Spec PySem.W.KPc PySem.Builtin PySem.Builtin.Str
theorem sub_lt : isSubtype (.type "list") (.type "tuple") = pure false := by rw [isSubtype_type]; kernel_rfl
theorem fills_list : fillsNumberSlot (.type "list") "mod" = pure false := by
  have a : typeLookup (.type "list") (PySem.dunder "mod") = pure none := by rw [typeLookup_type, builtinLookup_eq_fast]; kernel_rfl
  have b : typeLookup (.type "list") (PySem.dunderR "mod") = pure none := by rw [typeLookup_type, builtinLookup_eq_fast]; kernel_rfl
  unfold fillsNumberSlot
  simp [a, b]
section
variable {M : Model} {A : Around} {E : Value → Shared → Prop} {s : Shared}
theorem fills_refL {a : Addr} {Q : Bool → Shared → Prop} (hT : s.TypeIs (.ref a) "list") (h : ∀ b, Q b s) : wpAny M A (fillsMappingSlot (.ref a)) Q E s := by
  unfold fillsMappingSlot
  refine wpAny_bind (wpAny_specialOf hT F.slot_list_getitem.lookup ?_)
  exact wpAny_pure (h _)
end
abbrev F1 : Str := ⟨#[97, 100, 100, 114, 101, 115, 115, 95, 102, 111, 114, 109, 97, 116, 32, 109, 117, 115, 116, 32, 98, 101, 32, 97, 110, 32, 105, 110, 116, 101, 103, 101, 114, 32, 115, 101, 108, 101, 99, 116, 101, 100, 32, 102, 114, 111, 109, 32, 58, 32, 37, 115, 32]⟩
abbrev F2 : Str := ⟨#[109, 101, 109, 111, 114, 121, 115, 105, 122, 101, 95, 102, 111, 114, 109, 97, 116, 32, 109, 117, 115, 116, 32, 98, 101, 32, 97, 110, 32, 105, 110, 116, 101, 103, 101, 114, 32, 115, 101, 108, 101, 99, 116, 101, 100, 32, 102, 114, 111, 109, 32, 58, 32, 37, 115]⟩
theorem shown8 : (PyData.list P8).shown.length ≤ 100 := by decide +kernel
def Mp (B : Addr) (A : Around) (R : Result → Shared → Prop) (s : Shared) : Prop :=
  A.guards = some [] ∧ A.units + 10 < cLine ∧ (∃ t1 t2 t3 t4 t5 t6 t7 t8 c, s.heap.get? B = some (W.listOf (V8 t1 t2 t3 t4 t5 t6 t7 t8).toArray c)) ∧
  ∀ h' tk T u, (∀ b o, s.heap.get? b = some o → h'.get? b = some o) → R (.ok (.ret (.str T u))) { s with heap := h', toks := tk }
theorem meetsL {B : Addr} {t : Tok} : Meets («str.__mod__» ⟨[.str F1 t, .ref B], []⟩) (Mp B) := by
  refine Meets.of_wp fun prog w A R s hS => ?_
  obtain ⟨hg, hu, ⟨t1, t2, t3, t4, t5, t6, t7, t8, c, hB⟩, hR⟩ := hS
  have hT : s.TypeIs (.ref B) "list" := ⟨_, hB, rfl⟩
  have hsh := shown8
  rw [KPt.entry_is_r]
  unfold Builtin.Str.percentFormat
  refine wpAny_bind (wpAny_isInstance hT sub_lt ?_)
  refine wpAny_bind (KPt.asStr_ref hB rfl ?_)
  refine wpAny_bind (fills_refL hT fun b => ?_)
  kpc_if
  refine wpAny_bind (wpAny_pure ?_)
  refine wpAny_bind ?_
  rw [KPc.range_list]
  refine KPc.start ?_
  intro _ _
  refine KPc.turn ?_
  kpc_check
  repeat kpc_if
  refine wpAny_pure ?_
  kpc_piece
  refine KPc.turn ?_
  kpc_check
  repeat kpc_if
  refine wpAny_bind ?_
  refine wpAny_holding ?_
  repeat kpc_if
  refine wpAny_bind ?_
  kpc_if
  refine strOf_of_reads (reads8 hB) rfl (fun e => nomatch e) hg (Nat.lt_of_le_of_lt (Nat.add_le_add (Nat.le_refl (A.units + 1)) (show (PyData.list P8).depth + 1 ≤ 5 by decide +kernel)) (by omega)) (fun _ _ e => e) (fun h' u tk hk => ?_) (Nat.le_trans hsh (by rw [sizeLine_eq]; omega))
  refine wpAny_bind (wpAny_of_eq (a := some _) rfl ?_)
  refine wpAny_pure ?_
  refine wpAny_pure ?_
  refine KPc.after_str (by kpc_g) hsh (by kpc_obj) ?_
  intro _ _
  refine KPc.turn ?_
  kpc_check
  repeat kpc_if
  refine wpAny_pure ?_
  kpc_piece
  refine KPc.turn ?_
  kpc_check
  repeat kpc_if
  refine wpAny_pure ?_
  kpc_if
  refine KPc.finish_ok (by kpc_g) (by decide +kernel) rfl ?_
  intro t' k
  exact ⟨_, rfl, hR _ _ _ _ hk⟩
theorem meetsL2 {B : Addr} {t : Tok} : Meets («str.__mod__» ⟨[.str F2 t, .ref B], []⟩) (Mp B) := by
  refine Meets.of_wp fun prog w A R s hS => ?_
  obtain ⟨hg, hu, ⟨t1, t2, t3, t4, t5, t6, t7, t8, c, hB⟩, hR⟩ := hS
  have hT : s.TypeIs (.ref B) "list" := ⟨_, hB, rfl⟩
  have hsh := shown8
  rw [KPt.entry_is_r]
  unfold Builtin.Str.percentFormat
  refine wpAny_bind (wpAny_isInstance hT sub_lt ?_)
  refine wpAny_bind (KPt.asStr_ref hB rfl ?_)
  refine wpAny_bind (fills_refL hT fun b => ?_)
  kpc_if
  refine wpAny_bind (wpAny_pure ?_)
  refine wpAny_bind ?_
  rw [KPc.range_list]
  refine KPc.start ?_
  intro _ _
  refine KPc.turn ?_
  kpc_check
  repeat kpc_if
  refine wpAny_pure ?_
  kpc_piece
  refine KPc.turn ?_
  kpc_check
  repeat kpc_if
  refine wpAny_bind ?_
  refine wpAny_holding ?_
  repeat kpc_if
  refine wpAny_bind ?_
  kpc_if
  refine strOf_of_reads (reads8 hB) rfl (fun e => nomatch e) hg (Nat.lt_of_le_of_lt (Nat.add_le_add (Nat.le_refl (A.units + 1)) (show (PyData.list P8).depth + 1 ≤ 5 by decide +kernel)) (by omega)) (fun _ _ e => e) (fun h' u tk hk => ?_) (Nat.le_trans hsh (by rw [sizeLine_eq]; omega))
  refine wpAny_bind (wpAny_of_eq (a := some _) rfl ?_)
  refine wpAny_pure ?_
  refine wpAny_pure ?_
  refine KPc.after_str (by kpc_g) hsh (by kpc_obj) ?_
  intro _ _
  refine KPc.turn ?_
  kpc_check
  repeat kpc_if
  refine wpAny_pure ?_
  kpc_if
  refine KPc.finish_ok (by kpc_g) (by decide +kernel) rfl ?_
  intro t' k
  exact ⟨_, rfl, hR _ _ _ _ hk⟩
section
variable {prog : Program} {w : World} {A : Around} {E : Value → Shared → Prop} {s : Shared} {h₀ : Heap} {L B : Addr} {m : Str → Option Value} {news : List (Addr × PySem.Obj)} {X : Str} {t : Tok} {Q : Value → Shared → Prop}
theorem modL {Y : Str} (hX : X = Y) (hm : Meets («str.__mod__» ⟨[.str Y t, .ref B], []⟩) (Mp B)) {t1 t2 t3 t4 t5 t6 t7 t8 : Tok} {c : Nat} (hg : A.guards = some []) (hu : A.units + 10 < cLine) (F : Fr h₀ L s.heap m) (N : News h₀ L s.heap news)
    (hB : (B, W.listOf (V8 t1 t2 t3 t4 t5 t6 t7 t8).toArray c) ∈ news) (h : ∀ h' tk T u, Fr h₀ L h' m → News h₀ L h' news → Q (.str T u) { s with heap := h', toks := tk }) :
    wpAny (model prog w) A (binaryOp .Mod (.str X t) (.ref B)) Q E s := by
  subst hX
  have hb := (N _ hB).1
  exact KPt.bin_left (T := "str") (U := "list") (op := .Mod) (by decide) (typeIs_str s X t) ⟨_, hb, rfl⟩ PySem.F.fills_str_mod fills_list PySem.F.slot_str_mod
    (call_meets PySem.F.slot_str_mod (typeIs_str s X t) PySem.F.entry_str_mod (PySem.F.args_str_mod_2 _ _) hm ⟨hg, hu, ⟨_, _, _, _, _, _, _, _, _, hb⟩, fun h' tk T u hk => ⟨(fun e => nomatch e), h h' tk T u (F.keptAll hk) (N.grown hk)⟩⟩)
end
end Mine
namespace Mine
open PySem PySem.Calls PySem.Spec
theorem rs_B3 : True := by w_top off; trivial
local macro_rules | `(tactic| ktr_enter) => `(tactic| (
  refine' enterK ?k1 ?k2 ?k3 ?k4 ?k5 ?kA ?kF ?kK ?k6 ?k7 ?k8 ?k9 ?kB ?_ ?c5 ?c2 ?c3 ?c4;
  (case kA => exact rfl); (case kF => exact rfl); (case kK => first | assumption | exact rfl); (case k1 => assumption); (case k2 => assumption); (case k3 => assumption); (case k4 => assumption); (case k5 => assumption);
  (case k6 => k_is); (case k7 => k_is); (case k8 => first | (simp only [recursionLimit]; omega) | ktr_room); (case k9 => first | exact BindsTo.of_eq rfl | exact binds_K (by k_in) rfl (by k_is) rfl rfl rfl); (case c5 => decide); (case kB => exact locs rfl); (case c2 => exact rfl); (case c3 => exact rfl); (case c4 => exact rfl)))
local macro_rules | `(tactic| walk_at "subscriptTail") => `(tactic| ((with_reducible show wpAny _ _ (subscriptTail _ _ (Value.ref 58) (Value.int _ _)) _ _ _); k_dflt (refine' item58 ?F ?X ?h ?_; (case F => k_asm); (case X => k_asm); (case h => assumption)); intro t'))
local macro_rules | `(tactic| walk_at "subscriptTail") => `(tactic| ((with_reducible show wpAny _ _ (subscriptTail _ _ (Value.ref 57) (Value.int _ _)) _ _ _); k_dflt (refine' item57 ?F ?X ?h ?_; (case F => k_asm); (case X => k_asm); (case h => assumption)); intro t'))
local macro_rules | `(tactic| walk_at "compareOp NotIn int ref") => `(tactic| ((with_reducible show wpAny _ _ (compareOp CmpOp.NotIn (Value.int _ _) (Value.ref 58)) _ _ _); k_dflt (refine' notin58 ?F ?X ?_; (case F => k_asm); (case X => k_asm))))
local macro_rules | `(tactic| walk_at "compareOp NotIn int ref") => `(tactic| ((with_reducible show wpAny _ _ (compareOp CmpOp.NotIn (Value.int _ _) (Value.ref 57)) _ _ _); k_dflt (refine' notin57 ?F ?X ?_; (case F => k_asm); (case X => k_asm))))
local macro_rules | `(tactic| walk_at "binaryOp LShift int int") => `(tactic| (refine lshift_int_small (by decide) (by decide) (by omega) ?_))
local macro_rules | `(tactic| walk_at "call builtin:_struct.pack") => `(tactic| ((with_reducible show wpAny _ _ (call (Value.builtin _) [Value.str _ _, Value.int _ _]) _ _ _); k_dflt (first | (refine' pack_B ?h0 ?h1 ?_; (case h0 => omega); (case h1 => omega)) | (refine' pack_q ?h0 ?h1 ?_; (case h0 => omega); (case h1 => omega))); intro t'))
local macro_rules | `(tactic| ktr_rel) => `(tactic| exact back_led (by assumption) (by assumption) (by assumption) (by assumption) (by assumption) (fun p hp => .inr hp))
local macro_rules | `(tactic| ktr_unf) => `(tactic| first | omega | ((try dsimp only [Around.deeper, Around.in1, Around.mark]); (try simp only [dU, uU]); (try dsimp only [ktrTop, Around.deeper, Around.in1, Around.mark]); omega))
local macro_rules | `(tactic| k_enter) => `(tactic| (ktr_enter; intro g' L' h' kg' lL' FG' F' N' B' X' T'; (try dsimp only); (try k_fold)))
local macro_rules | `(tactic| walk_at "call ref") => `(tactic| (k_here; k_dflt (refine' call_clsK ?k1 ?k2 ?k3 ?k4 ?k5 ?k6 ?_; (case k1 => k_asm); (case k2 => k_asm); (case k3 => k_asm); (case k4 => k_is); (case k5 => k_is); (case k6 => k_is); k_whole; intro x' d' h' x1 l1 l2 F' N'; (try ((have l9 := news_lt (by assumption) l1); (k_lt l9))); (try k_lt2 l1); (try k_lt2 l2); (try k_sweep); k_enter)))

local macro_rules | `(tactic| walk_at "getMethod ref") => `(tactic| ((with_reducible show wpAny _ _ (getMethod (Value.ref 57) (Str.ofString "keys") _) _ _ _); k_dflt (refine' getKeys (D := D8) ?K ?F ?_; (case K => exact map57 (by k_asm)); (case F => k_asm))))
local macro_rules | `(tactic| walk_at "getMethod ref") => `(tactic| ((with_reducible show wpAny _ _ (getMethod (Value.ref 58) (Str.ofString "keys") _) _ _ _); k_dflt (refine' getKeys (D := D8) ?K ?F ?_; (case K => exact map58 (by k_asm)); (case F => k_asm))))
local macro_rules | `(tactic| walk_at "call builtin:dict.keys") => `(tactic| ((with_reducible show wpAny _ _ (call (Value.builtin "dict.keys") [Value.ref 57]) _ _ _); k_dflt (refine' callKeys (D := D8) ?K ?F ?N ?_; (case K => exact map57 (by k_asm)); (case F => k_asm); (case N => k_asm)); intro v9 h9 F9 N9 l9; (try k_lt l9); (try k_sweep)))
local macro_rules | `(tactic| walk_at "call builtin:dict.keys") => `(tactic| ((with_reducible show wpAny _ _ (call (Value.builtin "dict.keys") [Value.ref 58]) _ _ _); k_dflt (refine' callKeys (D := D8) ?K ?F ?N ?_; (case K => exact map58 (by k_asm)); (case F => k_asm); (case N => k_asm)); intro v9 h9 F9 N9 l9; (try k_lt l9); (try k_sweep)))
local macro_rules | `(tactic| walk_at "call type:list") => `(tactic| ((with_reducible show wpAny _ _ (call (Value.type _) [Value.ref _]) _ _ _); k_dflt (first | (refine' listKeys (a := 57) ?K ?hh ?F ?N ?hv ?_; (case K => exact map57 (by k_asm)); (case hh => exact rfl); (case F => k_asm); (case N => k_asm); (case hv => k_mem)) | (refine' listKeys (a := 58) ?K ?hh ?F ?N ?hv ?_; (case K => exact map58 (by k_asm)); (case hh => exact rfl); (case F => k_asm); (case N => k_asm); (case hv => k_mem))); intro B9 c9 h9 tk9 t91 t92 t93 t94 t95 t96 t97 t98 F9 N9 l9; (try k_lt l9); (try k_sweep)))
local macro_rules | `(tactic| walk_at "binaryOp Mod str ref") => `(tactic| (k_dflt (first | (refine' modL (Y := F1) ?e meetsL ?hg ?hu ?F ?N ?hB ?_; (case e => decide +kernel); (case hg => exact rfl); (case hu => ((show _ < 9900); ktr_unf)); (case F => k_asm); (case N => k_asm); (case hB => k_mem)) | (refine' modL (Y := F2) ?e meetsL2 ?hg ?hu ?F ?N ?hB ?_; (case e => decide +kernel); (case hg => exact rfl); (case hu => ((show _ < 9900); ktr_unf)); (case F => k_asm); (case N => k_asm); (case hB => k_mem))); intro h9 tk9 T9 u9 F9 N9; (try k_sweep)))
local macro_rules | `(tactic| walk_at "leaving ref") => `(tactic| (first
  | (refine' leave_raiseS ?k1 ?k0 ?k2 ?k3 ?_; (case k0 => first | assumption | exact Heap.MadeExc.of (by assumption)); (case k2 => assumption); (case k1 => assumption); (case k3 => k_asm); k_whole; intro h' t' S' R' U'; (try dsimp only at S' R' U' ⊢))
  | (refine' leave_onS ?k1 ?k2 ?k3 ?k4 ?_; (case k3 => assumption); (case k2 => assumption); (case k1 => assumption); (case k4 => assumption); k_whole; intro h' S' R' U'; (try dsimp only at S' R' U' ⊢))))

/-- an exception that flies over the frames l: what stood in h (the frames' slots apart) stands -/
def Flown (base : Heap) (l : List Env) (h : Heap) (e : Addr) (h' : Heap) : Prop := h.UpToSlots h' ∧ RaisedSN base h l e (.type "ValueError") [] h'
theorem flown_of {base g h h' : Heap} {l : List Env} {e : Addr} {news : List (Addr × Obj)} (k : KeptA [] h g) (U : g.UpToSlots h') (R : RaisedSN base g l e (.type "ValueError") news h') : Flown base l h e h' := by
  obtain ⟨B, a0, hB, hBG, hl, hfl⟩ := R
  exact ⟨fun b o hb hn => U b o (k b o hb List.not_mem_nil) hn, B, a0, hB, (fun b o hb hf => hBG b o (k b o hb List.not_mem_nil) hf), (fun q hq => nomatch hq), hfl⟩
theorem kept_new {x d : Addr} {h h1 g : Heap} (x1 : ∀ b o, h.get? b = some o → h1.get? b = some o) (k : KeptA [x, d] h1 g) (l1 : @LE.le Nat _ h.objs.size d) (l2 : @LT.lt Nat _ d x) : KeptA [] h g := fun b o e _ =>
  k b o (x1 b o e) (fun hm => by
    have hb : @LT.lt Nat _ b h.objs.size := Heap.lt_size e
    have hx : @LT.lt Nat _ b x := Nat.lt_of_lt_of_le hb (Nat.le_trans l1 (Nat.le_of_lt l2))
    have hd : @LT.lt Nat _ b d := Nat.lt_of_lt_of_le hb l1
    rcases List.mem_cons.mp hm with q | q
    · exact absurd q (Nat.ne_of_lt hx)
    · exact absurd (List.mem_singleton.mp q) (Nat.ne_of_lt hd))
section
variable {w : World} {A₀ : Around} {s : Shared} {base h₀ : Heap} {outer : List Env} {L : Addr} {m : Str → Option Value} {mean : ExcName → Option Value} {mg mb : Str → Option Value}
  {Q E : Value → Shared → Prop} {dp un : Nat} {gd : Option (List Code)} {cn : Str} {cs : Scope} {a : Addr} {ccd : Value} {cl : List (Str × Addr)}

theorem mkAlf_raise {ms af : Int} {t u : Tok} (B : Below A₀ base outer h₀) (F : Fr h₀ L s.heap m) (X : (hd.heap_39 w.params).In h₀) (T : Top hd.view_39 LO mean mg mb h₀)
   (hke : cs.kind = .function) (hdp : dp + 20 < 1000) (hun : un + 200 < 9900) (hbad : ¬ (e8 af = true ∧ e8 ms = true))
   (hE : ∀ e h' tk', Flown base (envX cn cs L a ccd cl :: outer) s.heap e h' → E (.ref e) { s with heap := h', toks := tk' }) :
   wpAny (model PySem.Challenge.rw_eh5030_01.row.prog w) (ktrTop dp un (some []) cn cs L a ccd cl outer) (call (.ref 82) [] [(Str.ofString "memorysize_format", .int ms t), (Str.ofString "address_format", .int af u)]) Q E s := by
  have N : News h₀ L s.heap [] := News.nil
  by_cases haf : e8 af = true
  · have hms : e8 ms = false := by
      cases q : e8 ms with
      | false => rfl
      | true => exact absurd ⟨haf, q⟩ hbad
    have hn1 : (!e8 af) = false := by rw [haf]; rfl
    have hn2 : (!e8 ms) = true := by rw [hms]; rfl
    clear hbad
    (try dsimp only); (try k_fold)
    k_steps
    refine' hE _ _ _ (flown_of (kept_new ?a1 ?b1 ?c1 ?d1) ?u1 (RaisedS.toSN ?r1))
    case r1 => assumption
    case u1 => assumption
    case a1 => assumption
    case b1 => assumption
    case c1 => assumption
    case d1 => assumption
  · have haf' : e8 af = false := by
      cases q : e8 af with
      | false => rfl
      | true => exact absurd q haf
    have hn1 : (!e8 af) = true := by rw [haf']; rfl
    clear hbad haf
    (try dsimp only); (try k_fold)
    k_steps
    refine' hE _ _ _ (flown_of (kept_new ?a2 ?b2 ?c2 ?d2) ?u2 (RaisedS.toSN ?r2))
    case r2 => assumption
    case u2 => assumption
    case a2 => assumption
    case b2 => assumption
    case c2 => assumption
    case d2 => assumption
end
end Mine
namespace Mine
open PySem PySem.Calls PySem.Spec
section
variable {M : Model} {A A' : Around} {E : Value → Shared → Prop} {s : Shared} {env : Env} {outer : List Env}
theorem setFlight_any {base : Heap} {l : List Env} {e L : Addr} {cls a0 fl : Value} {Q : Unit → Shared → Prop} (f1 : base.StaysIn s.heap) (f2 : base.get? e = none) (f3 : s.heap.FunFrames base l) (f4 : s.heap.TracedAtW base e cls a0 fl)
    (h : ∀ h', Heap.HeldW base l e cls a0 L h' → s.heap.UpToSlots h' → Q () { s with heap := h' }) : wpAny M A (setFlight (.ref e) (some L)) Q E s := by
  obtain ⟨oe, vs, T, oT, ts, he, hcls, hd, h1, hnT, hTe, hT, hdT, h3⟩ := f4
  have hsz3 : 3 < ts.size := (Array.getElem?_eq_some_iff.mp h3).1
  have other : ∀ b, b ≠ T → (s.heap.update T (Obj.mapFields (·.setIfInBounds 3 ((some L).elim Value.none fun f => rawInt f)))).get? b = s.heap.get? b :=
    fun b hb => Heap.get?_update_other _ _ (Ne.symm hb)
  have noRecord : ∀ b o, s.heap.get? b = some o → (∀ vs, o.data ≠ .fields vs) → b ≠ T := fun b o hb hnf q => by
    rw [q, hT] at hb; injection hb with hb; subst hb; exact hnf ts hdT
  unfold setFlight
  refine wpAny_bind (wpAny_field he hd h1 ?_)
  rw [if_pos (show (Value.ref T != Value.none) = true from by simp)]
  refine wpAny_setField hT hdT hsz3 (h _ ⟨fun b o hbo => (other b fun q => by rw [q, hnT] at hbo; cases hbo).trans (f1 b o hbo), f2,
    f3.of_keeps fun b o hb hnf => ⟨o, (other b (noRecord b o hb hnf)).trans hb, rfl⟩, ?_⟩ fun b o hb hnf => ⟨o.slots, (other b (noRecord b o hb hnf)).trans hb⟩)
  exact ⟨oe, vs, T, _, _, (other e (Ne.symm hTe)).trans he, hcls, hd, h1, hnT, hTe, Heap.get?_update_self _ hT (Obj.isFreed_of_fields (Obj.data_mapFields hdT _)), Obj.data_mapFields hdT _, by simp [hsz3]⟩
theorem held_out {base : Heap} {e L : Addr} {cls a0 : Value} (hf : env.frame = some L) (hh : Heap.HeldW base (env :: outer) e cls a0 L s.heap)
    (h : ∀ h', Heap.HeldW base (env :: outer) e cls a0 L h' → s.heap.UpToSlots h' → E (.ref e) { s with heap := h' }) :
    notedBy M A' env (cameBackBy M A env E) (.ref e) s := by
  unfold notedBy
  refine wpAny_noteFrame_againW hf hh.2.2.2 ?_
  unfold cameBackBy
  obtain ⟨oe, vs, T, oT, ts, he, hcls, hd, h1, hnT, hTe, hT, hdT, h3⟩ := hh.2.2.2
  refine wpAny_bind (wpAny_field he hd h1 ?_)
  dsimp only
  rw [if_neg (show ¬ (Value.ref T == Value.none) = true from by simp)]
  rw [hf]
  exact setFlight_any hh.1 hh.2.1 hh.2.2.1 hh.2.2.2 h
theorem held_leaves {base : Heap} {e L : Addr} {cls a0 : Value} {Q : Unit → Shared → Prop} (hf : env.frame = some L) (hh : Heap.HeldW base (env :: outer) e cls a0 L s.heap)
    (h : ∀ h', Heap.FlyingW base outer e cls a0 h' → s.heap.UpToSlots h' → Q () { s with heap := h' }) : wpAny M A (leaving env (.ref e)) Q E s := by
  unfold leaving
  refine wpAny_bind (wpAny_noteFrame_againW hf hh.2.2.2 ?_)
  refine wpAny_landsW hh fun h'' hfl U' => ?_
  obtain ⟨k1, k2, ⟨_, _, k3⟩, k4⟩ := hfl
  exact h h'' ⟨k1, k2, k3, k4⟩ U'
theorem bareRaise {base : Heap} {l : List Env} {e L : Addr} {cls a0 : Value} {pos : Pos} {Q : Flow → Shared → Prop} (hA : A.handled = some (.ref e)) (hf : env.frame = some L) (hfl : Heap.FlyingW base l e cls a0 s.heap)
    (h : ∀ h', Heap.HeldW base l e cls a0 L h' → s.heap.UpToSlots h' → E (.ref e) { s with heap := h' }) : wpAny M A (exec (.Raise none none pos) env) Q E s := by
  show wpAny M A (do standAt pos; raiseStmt env none none) Q E s
  refine wpAny_bind (wpAny_standAt ?_)
  unfold raiseStmt
  refine wpAny_bind (wpAny_handled ?_)
  rw [hA]
  refine wpAny_bind (wpAny_rule ?_)
  obtain ⟨hkb, hen, hl, htr⟩ := hfl
  obtain ⟨oe, vs, T, oT, ts, he, hcls, hd, h1, hnT, hTe, hT, hdT, h3⟩ := htr
  refine wpAny_bind (wpAny_field he hd h1 ?_)
  rw [if_neg (show ¬ (Value.ref T == Value.none) = true from by simp)]
  rw [hf]
  exact wpAny_bind (setFlight_any hkb hen hl ⟨oe, vs, T, oT, ts, he, hcls, hd, h1, hnT, hTe, hT, hdT, h3⟩ fun h' hh' U => wpAny_throw (h h' hh' U))
end
section
variable {prog : Program} {w : World} {A : Around} {E : Value → Shared → Prop} {s : Shared} {env : Env}
theorem handleBy_bare {e : Addr} {b₀ : Stmt} {suite : List Stmt} {pos : Pos} {rest : List ExceptHandler} {Q : Flow → Shared → Prop}
    (h : wpAny (model prog w) (A.mark (some (.ref e))) (setFlight (.ref e) none) (fun _ s₂ => wpAny (model prog w) (A.mark (some (.ref e))) (execs (b₀ :: suite) env) Q (notedBy (model prog w) (A.mark (some (.ref e))) env (cameBackBy (model prog w) A env E)) s₂) (notedBy (model prog w) (A.mark (some (.ref e))) env (cameBackBy (model prog w) A env E)) s) :
    wpAny (model prog w) A (handleBy (.ref e) env (.ExceptHandler none none (b₀ :: suite) pos :: rest)) Q E s := by
  rw [handleBy]
  refine wpAny_bind (wpAny_pure ?_)
  simp only [Bool.not_true, Bool.false_eq_true, if_false]
  refine wpAny_bind (wpAny_holding (wpAny_runOwn (codeAny_mono (codeAny_handlers_suite (R := fun r s₂ => match r with | .ok f => Q f s₂ | .error x => cameBackBy (model prog w) A env E x s₂) h) (fun r s₂ h₂ => ?_)) (by intro q; cases q)))
  cases r with
  | error x => exact h₂
  | ok f => exact wpAny_pure h₂
end
end Mine
namespace Mine
open PySem PySem.Calls PySem.Spec
/-- the program's own objects stand in the ground of all frames -/
def BaseOk (w : World) (mean : ExcName → Option Value) (mg mb : Str → Option Value) (base : Heap) : Prop := (hd.heap_39 w.params).In base ∧ Top hd.view_39 LO mean mg mb base
def Tr (cls : Value) (T : Addr) (oe oT : Obj) : Prop := ∃ vs ts a0, (oe.cls = cls ∧ vs[0]? = some a0) ∧ oe.data = .fields vs ∧ vs[1]? = some (.ref T) ∧ oT.data = .fields ts ∧ ts[3]? = some .none
theorem funFrames_hide' {base h B : Heap} : ∀ {l : List Env}, h.FunFrames base l → (∀ env ∈ l, ∀ a, env.frame = some a → B.get? a = none) → h.FunFrames B l
  | [], _, _ => trivial
  | _ :: _, ⟨hk, ⟨L, o, hf, _, ho, hd⟩, hr⟩, hin => ⟨hk, ⟨L, o, hf, hin _ (.head _) L hf, ho, hd⟩, funFrames_hide' hr fun e he => hin e (.tail _ he)⟩
section
variable {prog : Program} {w : World} {A₀ : Around} {E : Value → Shared → Prop} {s' : Shared} {base g G : Heap} {outer : List Env} {L a e : Addr} {m : Str → Option Value} {name : Str} {scope : Scope} {cd : Value}
  {b₀ : Stmt} {suite : List Stmt} {pos : Pos} {rest : List ExceptHandler} {Q : Flow → Shared → Prop} {news : List (Addr × Obj)} {KF : Frag} {p : Program} {loose : List Str} {mean : ExcName → Option Value} {mg mb : Str → Option Value}
theorem bare_catch (Fl : Flown base (envOf name scope L a cd :: outer) G e s'.heap) (F : Fr g L G m) (N : News g L G news) (K : Below A₀ base outer g) (XB : KF.In base) (TB : Top p loose mean mg mb base)
  (k : ∀ h₆ g' T oe oT, KtsTurn (outer.filterMap (·.frame)) g g' → Fr g' L h₆ m → News g' L h₆ ((e, oe) :: (T, oT) :: news) → Below A₀ base outer g' → KF.In g' → Top p loose mean mg mb g' → T ≠ e → (∀ q ∈ news, q.1 ≠ e ∧ q.1 ≠ T) → base.get? e = none → base.get? T = none → Tr (.type "ValueError") T oe oT →
     wpAny (model prog w) ((A₀.deeper (envOf name scope L a cd)).mark (some (.ref e))) (execs (b₀ :: suite) (envOf name scope L a cd)) Q (notedBy (model prog w) ((A₀.deeper (envOf name scope L a cd)).mark (some (.ref e))) (envOf name scope L a cd) (cameBackBy (model prog w) (A₀.deeper (envOf name scope L a cd)) (envOf name scope L a cd) E)) { s' with heap := h₆ }) :
    wpAny (model prog w) (A₀.deeper (envOf name scope L a cd)) (noteFrame (.ref e) (envOf name scope L a cd))
      (fun _ s₂ => wpAny (model prog w) (A₀.deeper (envOf name scope L a cd)) (setFlight (.ref e) none) (fun _ s₃ =>
        wpAny (model prog w) (A₀.deeper (envOf name scope L a cd)) (handleBy (.ref e) (envOf name scope L a cd) (.ExceptHandler none none (b₀ :: suite) pos :: rest)) Q E s₃) E s₂) E s' := by
  obtain ⟨U, B, a0, hB, hBG, _, hfl⟩ := Fl
  refine wpAny_looks_onW (Around.frames_deeper K.stack) rfl hfl fun h₄ hheld₄ hsm₄ => ?_
  refine wpAny_landsW hheld₄ fun h₅ hfl5 hsm₅ => ?_
  refine handleBy_bare ?_
  refine lands_againW hfl5 fun h₆ hfl₆ hsm₆ => ?_
  have hsm := ((U.trans hsm₄).trans hsm₅).trans hsm₆
  obtain ⟨g₆, T₆, F₆, K₆⟩ := kts_ground K F hBG hfl₆.1 hsm
  obtain ⟨hst, hen, hff, oe, vs, T, oT, ts, he, hcls, hd, h1, hnT, hTe, hT, hdT, h3⟩ := hfl₆
  have noF : ∀ b ob ws, h₆.get? b = some ob → ob.data = .fields ws → ∀ o, g.get? b = some o → b ∈ outer.filterMap (·.frame) → False := fun b ob ws hb hbd o ho hm => by
    obtain ⟨_, o', ho', hdd⟩ := K.frames.mem hm
    rw [ho] at ho'; cases ho'
    obtain ⟨sl, hs⟩ := hsm _ _ (F.keep _ _ ho) hdd
    rw [hb] at hs; cases hs
    exact hdd _ hbd
  have ge : g.get? e = none := kts_fresh F hBG hen (noF e oe vs he hd)
  have gT : g.get? T = none := kts_fresh F hBG hnT (noF T oT ts hT hdT)
  have be : base.get? e = none := by
    cases q : base.get? e with
    | none => rfl
    | some o => have := hB e o q; rw [hen] at this; cases this
  have bT : base.get? T = none := by
    cases q : base.get? T with
    | none => rfl
    | some o => have := hB T o q; rw [hnT] at this; cases this
  have nL : ∀ b ob ws, h₆.get? b = some ob → ob.data = .fields ws → b ≠ L := fun b ob ws hb hbd q => by
    obtain ⟨oL, es, ep, hL, hLd, _⟩ := F₆.ns
    rw [q, hL] at hb; cases hb
    rw [hLd] at hbd; cases hbd
  have nB : ∀ q ∈ news, B.get? q.1 = some q.2 := fun q hq => hBG _ _ (N q hq).1 (fun hm => by
    rcases kts_mem hm with z | z
    · exact (N q hq).2.1 z
    · obtain ⟨_, o, ho, _⟩ := K.frames.mem z
      rw [(N q hq).2.2] at ho; cases ho)
  refine k h₆ g₆ T oe oT T₆ F₆ ?_ K₆ (XB.keeps K₆.stays) (TB.keeps K₆.stays) hTe (fun q hq => ⟨fun z => ?_, fun z => ?_⟩) be bT ⟨vs, ts, a0, hcls, hd, h1, hdT, h3⟩
  · intro q hq
    rcases List.mem_cons.mp hq with rfl | hq
    · exact ⟨he, nL _ _ _ he hd, T₆.none_ _ ge⟩
    rcases List.mem_cons.mp hq with rfl | hq
    · exact ⟨hT, nL _ _ _ hT hdT, T₆.none_ _ gT⟩
    · exact ⟨hst _ _ (nB q hq), (N q hq).2.1, T₆.none_ _ (N q hq).2.2⟩
  · have := nB q hq; rw [z, hen] at this; cases this
  · have := nB q hq; rw [z, hnT] at this; cases this
theorem flown_again {h h8 g' : Heap} {T : Addr} {oe oT : Obj} (kA : KeptA (news.map (·.1)) h g) (hsz : h.objs.size ≤ L) (TT : KtsTurn (outer.filterMap (·.frame)) g g') (K' : Below A₀ base outer g') (F8 : Fr g' L h8 m)
    (N8 : News g' L h8 ((e, oe) :: (T, oT) :: news)) (hN : ∀ p ∈ news, h.get? p.1 = some p.2) (hne : ∀ q ∈ news, q.1 ≠ e ∧ q.1 ≠ T) (hTe : T ≠ e) (be : base.get? e = none) (bT : base.get? T = none) (tr : Tr (.type "ValueError") T oe oT) (hk : scope.kind = .function) :
    ∃ B a0, Heap.FlyingW B (envOf name scope L a cd :: outer) e (.type "ValueError") a0 h8 ∧ ∀ h9, Heap.FlyingW B outer e (.type "ValueError") a0 h9 → h8.UpToSlots h9 → Flown base outer h e h9 := by
  obtain ⟨vs, ts, a0, hcls, hd, h1, hdT, h3⟩ := tr
  have Ne := N8 _ (.head _)
  have NT := N8 _ (.tail _ (.head _))
  have Nn : ∀ q ∈ news, h8.get? q.1 = some q.2 ∧ q.1 ≠ L ∧ g'.get? q.1 = none := fun q hq => N8 q (.tail _ (.tail _ hq))
  let hid := e :: T :: L :: outer.filterMap (·.frame)
  have hin : ∀ b, b ∈ hid → (hideAll h8 hid).get? b = none := fun b hb => hideAll_none _ hb
  have K8 := K'.push (name := name) (scope := scope) (a := a) (cd := cd) F8 hk
  have fr8 : (h8.FunFrames base (envOf name scope L a cd :: outer)) := K8.frames
  have stB : Heap.StaysIn (hideAll h8 hid) h8 := fun b o q => of_hideAll _ q
  have ffB : h8.FunFrames (hideAll h8 hid) (envOf name scope L a cd :: outer) := funFrames_hide' fr8 (fun env he b hb => by
    rcases List.mem_cons.mp he with rfl | he
    · have : L = b := Option.some.inj hb
      exact hin b (this ▸ .tail _ (.tail _ (.head _)))
    · exact hin b (.tail _ (.tail _ (.tail _ (List.mem_filterMap.mpr ⟨env, he, hb⟩)))))
  have gL : g'.get? L = none := kts_self F8
  refine ⟨hideAll h8 hid, a0, ⟨stB, hin e (.head _), ffB, oe, vs, T, oT, ts, Ne.1, hcls, hd, h1, hin T (.tail _ (.head _)), hTe, NT.1, hdT, h3⟩, fun h9 hfl U => ⟨fun b o hb hnf => ?_, hideAll h8 hid, a0, fun b o hb => ?_, fun b o hb hf => ?_, (fun q hq => nomatch hq), hfl⟩⟩
  · have base8 : ∃ sl, h8.get? b = some { o with slots := sl } := by
      by_cases hm : b ∈ news.map (·.1)
      · obtain ⟨q, hq, rfl⟩ := List.mem_map.mp hm
        rw [hN q hq] at hb; cases hb
        exact ⟨_, (Nn q hq).1⟩
      · obtain ⟨sl, hs⟩ := TT.up (kA b o hb hm)
        exact ⟨sl, F8.keep _ _ hs⟩
    obtain ⟨sl, hs⟩ := base8
    obtain ⟨sl', hs'⟩ := U b _ hs hnf
    exact ⟨sl', hs'⟩
  · refine hideAll_get _ (F8.keep _ _ (K'.stays b o hb)) fun hm => ?_
    rcases List.mem_cons.mp hm with z | hm
    · rw [z, be] at hb; cases hb
    rcases List.mem_cons.mp hm with z | hm
    · rw [z, bT] at hb; cases hb
    rcases List.mem_cons.mp hm with z | hm
    · have := K'.stays b o hb; rw [z, gL] at this; cases this
    · rw [(K'.frames.mem hm).1] at hb; cases hb
  · have hbL : b ≠ L := fun z => by
      have h1 := Heap.lt_size hb
      rw [z] at h1
      exact absurd h1 (Nat.not_lt.mpr hsz)
    by_cases hm : b ∈ news.map (·.1)
    · obtain ⟨q, hq, rfl⟩ := List.mem_map.mp hm
      rw [hN q hq] at hb; cases hb
      refine hideAll_get _ (Nn q hq).1 fun hm => ?_
      rcases List.mem_cons.mp hm with z | hm
      · exact (hne q hq).1 z
      rcases List.mem_cons.mp hm with z | hm
      · exact (hne q hq).2 z
      rcases List.mem_cons.mp hm with z | hm
      · exact hbL z
      · exact hf hm
    · have g1 := TT.other b o (kA b o hb hm) hf
      refine hideAll_get _ (F8.keep _ _ g1) fun hm => ?_
      rcases List.mem_cons.mp hm with z | hm
      · rw [z, Ne.2.2] at g1; cases g1
      rcases List.mem_cons.mp hm with z | hm
      · rw [z, NT.2.2] at g1; cases g1
      rcases List.mem_cons.mp hm with z | hm
      · exact hbL z
      · exact hf hm
/-- the exception that is in hand in the frame env, and what its flight on leaves of h -/
def InHand (base : Heap) (env : Env) (outer : List Env) (L : Addr) (h : Heap) (e : Addr) (h' : Heap) : Prop :=
  ∃ B a0, Heap.HeldW B (env :: outer) e (.type "ValueError") a0 L h' ∧ ∀ h9, Heap.FlyingW B outer e (.type "ValueError") a0 h9 → h'.UpToSlots h9 → Flown base outer h e h9
theorem raise_out {s : Shared} {h g' : Heap} {T : Addr} {oe oT : Obj} {pos : Pos} (kA : KeptA (news.map (·.1)) h g) (hsz : h.objs.size ≤ L) (TT : KtsTurn (outer.filterMap (·.frame)) g g') (K' : Below A₀ base outer g') (F8 : Fr g' L s.heap m)
    (N8 : News g' L s.heap ((e, oe) :: (T, oT) :: news)) (hN : ∀ p ∈ news, h.get? p.1 = some p.2) (hne : ∀ q ∈ news, q.1 ≠ e ∧ q.1 ≠ T) (hTe : T ≠ e) (be : base.get? e = none) (bT : base.get? T = none) (tr : Tr (.type "ValueError") T oe oT) (hk : scope.kind = .function)
    (hE : ∀ h', InHand base (envOf name scope L a cd) outer L h e h' → E (.ref e) { s with heap := h' }) :
    wpAny (model prog w) ((A₀.deeper (envOf name scope L a cd)).mark (some (.ref e))) (exec (.Raise none none pos) (envOf name scope L a cd)) Q
      (notedBy (model prog w) ((A₀.deeper (envOf name scope L a cd)).mark (some (.ref e))) (envOf name scope L a cd) (cameBackBy (model prog w) (A₀.deeper (envOf name scope L a cd)) (envOf name scope L a cd) E)) s := by
  obtain ⟨B, a0, hfl, hback⟩ := flown_again (name := name) (scope := scope) (a := a) (cd := cd) kA hsz TT K' F8 N8 hN hne hTe be bT tr hk
  refine bareRaise rfl rfl hfl fun h' hh' U => ?_
  exact held_out rfl hh' fun h9 hh9 U9 => hE h9 ⟨B, a0, hh9, fun h10 hfl10 U10 => hback h10 hfl10 ((U.trans U9).trans U10)⟩
theorem leave_hand {s : Shared} {A : Around} {h : Heap} {Q : Unit → Shared → Prop} (H : InHand base (envOf name scope L a cd) outer L h e s.heap) (hQ : ∀ h9, Flown base outer h e h9 → Q () { s with heap := h9 }) :
    wpAny (model prog w) A (leaving (envOf name scope L a cd) (.ref e)) Q E s := by
  obtain ⟨B, a0, hh, hback⟩ := H
  exact held_leaves rfl hh fun h9 hfl9 U9 => hQ h9 (hback h9 hfl9 U9)
end
end Mine
namespace Mine
open PySem PySem.Calls PySem.Spec
theorem rs_A9 : True := by w_top off; trivial
local macro_rules | `(tactic| ktr_enter) => `(tactic| (
  refine' enterK ?k1 ?k2 ?k3 ?k4 ?k5 ?kA ?kF ?kK ?k6 ?k7 ?k8 ?k9 ?kB ?_ ?c5 ?c2 ?c3 ?c4;
  (case kA => exact rfl); (case kF => exact rfl); (case kK => first | assumption | exact rfl); (case k1 => assumption); (case k2 => assumption); (case k3 => assumption); (case k4 => assumption); (case k5 => assumption);
  (case k6 => k_is); (case k7 => k_is); (case k8 => first | (simp only [recursionLimit]; omega) | ktr_room); (case k9 => first | exact BindsTo.of_eq rfl | exact binds_K (by k_in) rfl (by k_is) rfl rfl rfl); (case c5 => decide); (case kB => exact locs rfl); (case c2 => exact rfl); (case c3 => exact rfl); (case c4 => exact rfl)))
local macro_rules | `(tactic| walk_at "subscriptTail") => `(tactic| ((with_reducible show wpAny _ _ (subscriptTail _ _ (Value.ref 58) (Value.int _ _)) _ _ _); k_dflt (refine' item58 ?F ?X ?h ?_; (case F => k_asm); (case X => k_asm); (case h => assumption)); intro t'))
local macro_rules | `(tactic| walk_at "subscriptTail") => `(tactic| ((with_reducible show wpAny _ _ (subscriptTail _ _ (Value.ref 57) (Value.int _ _)) _ _ _); k_dflt (refine' item57 ?F ?X ?h ?_; (case F => k_asm); (case X => k_asm); (case h => assumption)); intro t'))
local macro_rules | `(tactic| walk_at "compareOp NotIn int ref") => `(tactic| ((with_reducible show wpAny _ _ (compareOp CmpOp.NotIn (Value.int _ _) (Value.ref 58)) _ _ _); k_dflt (refine' notin58 ?F ?X ?_; (case F => k_asm); (case X => k_asm))))
local macro_rules | `(tactic| walk_at "compareOp NotIn int ref") => `(tactic| ((with_reducible show wpAny _ _ (compareOp CmpOp.NotIn (Value.int _ _) (Value.ref 57)) _ _ _); k_dflt (refine' notin57 ?F ?X ?_; (case F => k_asm); (case X => k_asm))))
local macro_rules | `(tactic| walk_at "binaryOp LShift int int") => `(tactic| (refine lshift_int_small (by decide) (by decide) (by omega) ?_))
local macro_rules | `(tactic| walk_at "call builtin:_struct.pack") => `(tactic| ((with_reducible show wpAny _ _ (call (Value.builtin _) [Value.str _ _, Value.int _ _]) _ _ _); k_dflt (first | (refine' pack_B ?h0 ?h1 ?_; (case h0 => omega); (case h1 => omega)) | (refine' pack_q ?h0 ?h1 ?_; (case h0 => omega); (case h1 => omega))); intro t'))
local macro_rules | `(tactic| ktr_rel) => `(tactic| exact back_led (by assumption) (by assumption) (by assumption) (by assumption) (by assumption) (fun p hp => .inr hp))
local macro_rules | `(tactic| ktr_unf) => `(tactic| first | omega | ((try dsimp only [Around.deeper, Around.in1, Around.mark]); (try simp only [dU, uU]); (try dsimp only [ktrTop, Around.deeper, Around.in1, Around.mark]); omega))
local macro_rules | `(tactic| k_enter) => `(tactic| (ktr_enter; intro g' L' h' kg' lL' FG' F' N' B' X' T'; (try dsimp only); (try k_fold)))
local macro_rules | `(tactic| walk_at "call ref") => `(tactic| (k_here; k_dflt (refine' call_clsK ?k1 ?k2 ?k3 ?k4 ?k5 ?k6 ?_; (case k1 => k_asm); (case k2 => k_asm); (case k3 => k_asm); (case k4 => k_is); (case k5 => k_is); (case k6 => k_is); k_whole; intro x' d' h' x1 l1 l2 F' N'; (try ((have l9 := news_lt (by assumption) l1); (k_lt l9))); (try k_lt2 l1); (try k_lt2 l2); (try k_sweep); k_enter)))

local macro_rules | `(tactic| walk_at "getMethod ref") => `(tactic| ((with_reducible show wpAny _ _ (getMethod (Value.ref 57) (Str.ofString "keys") _) _ _ _); k_dflt (refine' getKeys (D := D8) ?K ?F ?_; (case K => exact map57 (by k_asm)); (case F => k_asm))))
local macro_rules | `(tactic| walk_at "getMethod ref") => `(tactic| ((with_reducible show wpAny _ _ (getMethod (Value.ref 58) (Str.ofString "keys") _) _ _ _); k_dflt (refine' getKeys (D := D8) ?K ?F ?_; (case K => exact map58 (by k_asm)); (case F => k_asm))))
local macro_rules | `(tactic| walk_at "call builtin:dict.keys") => `(tactic| ((with_reducible show wpAny _ _ (call (Value.builtin "dict.keys") [Value.ref 57]) _ _ _); k_dflt (refine' callKeys (D := D8) ?K ?F ?N ?_; (case K => exact map57 (by k_asm)); (case F => k_asm); (case N => k_asm)); intro v9 h9 F9 N9 l9; (try k_lt l9); (try k_sweep)))
local macro_rules | `(tactic| walk_at "call builtin:dict.keys") => `(tactic| ((with_reducible show wpAny _ _ (call (Value.builtin "dict.keys") [Value.ref 58]) _ _ _); k_dflt (refine' callKeys (D := D8) ?K ?F ?N ?_; (case K => exact map58 (by k_asm)); (case F => k_asm); (case N => k_asm)); intro v9 h9 F9 N9 l9; (try k_lt l9); (try k_sweep)))
local macro_rules | `(tactic| walk_at "call type:list") => `(tactic| ((with_reducible show wpAny _ _ (call (Value.type _) [Value.ref _]) _ _ _); k_dflt (first | (refine' listKeys (a := 57) ?K ?hh ?F ?N ?hv ?_; (case K => exact map57 (by k_asm)); (case hh => exact rfl); (case F => k_asm); (case N => k_asm); (case hv => k_mem)) | (refine' listKeys (a := 58) ?K ?hh ?F ?N ?hv ?_; (case K => exact map58 (by k_asm)); (case hh => exact rfl); (case F => k_asm); (case N => k_asm); (case hv => k_mem))); intro B9 c9 h9 tk9 t91 t92 t93 t94 t95 t96 t97 t98 F9 N9 l9; (try k_lt l9); (try k_sweep)))
local macro_rules | `(tactic| walk_at "binaryOp Mod str ref") => `(tactic| (k_dflt (first | (refine' modL (Y := F1) ?e meetsL ?hg ?hu ?F ?N ?hB ?_; (case e => decide +kernel); (case hg => exact rfl); (case hu => ((show _ < 9900); ktr_unf)); (case F => k_asm); (case N => k_asm); (case hB => k_mem)) | (refine' modL (Y := F2) ?e meetsL2 ?hg ?hu ?F ?N ?hB ?_; (case e => decide +kernel); (case hg => exact rfl); (case hu => ((show _ < 9900); ktr_unf)); (case F => k_asm); (case N => k_asm); (case hB => k_mem))); intro h9 tk9 T9 u9 F9 N9; (try k_sweep)))
local macro_rules | `(tactic| walk_at "leaving ref") => `(tactic| (first
  | (refine' leave_raiseS ?k1 ?k0 ?k2 ?k3 ?_; (case k0 => first | assumption | exact Heap.MadeExc.of (by assumption)); (case k2 => assumption); (case k1 => assumption); (case k3 => k_asm); k_whole; intro h' t' S' R' U'; (try dsimp only at S' R' U' ⊢))
  | (refine' leave_onS ?k1 ?k2 ?k3 ?k4 ?_; (case k3 => assumption); (case k2 => assumption); (case k1 => assumption); (case k4 => assumption); k_whole; intro h' S' R' U'; (try dsimp only at S' R' U' ⊢))))

local macro_rules | `(tactic| walk_at "call ref") => `(tactic| ((try dsimp only [List.cons_append, List.nil_append]); (with_reducible show wpAny _ _ (call (Value.ref 82) [] _) _ _ _); k_dflt (refine' mkAlf_ok ?B ?F ?X ?T ?hk ?hd ?hu ?h1 ?h2 ?_; (case B => k_asm); (case F => k_asm); (case X => k_asm); (case T => k_asm); (case hk => first | exact rfl | assumption); (case hd => ktr_unf); (case hu => ktr_unf); (case h1 => assumption); (case h2 => assumption)); intro x9 dx9 ta9 tb9 h9 tk9 K9 sd9 sx9 NN9; (have l9 := news_lt (by assumption) sd9); (k_lt l9); (have N9 := news_app NN9 (K9.news0 (by assumption))); (simp only [List.cons_append, List.nil_append] at N9); (have F9 := K9.fr)))
local macro_rules | `(tactic| walk_at "call ref") => `(tactic| ((try dsimp only [List.cons_append, List.nil_append]); (with_reducible show wpAny _ _ (call (Value.ref 82) [] _) _ _ _); k_dflt (refine' mkAlf_raise ?B ?F ?X ?T ?hk ?hd ?hu ?hbad ?_; (case B => k_asm); (case F => k_asm); (case X => k_asm); (case T => k_asm); (case hk => first | exact rfl | assumption); (case hd => ktr_unf); (case hu => ktr_unf); (case hbad => assumption)); intro e9 h9 tk9 Fl9; (try dsimp only)))
local macro_rules | `(tactic| walk_at "call ref") => `(tactic| ((try dsimp only [List.cons_append, List.nil_append]); (with_reducible show wpAny _ _ (call (Value.ref 116) [Value.ref _, Value.int _ _]) _ _ _); k_dflt (refine' autosize_a_ok ?B ?F ?X ?T ?hk ?hd ?hu ?h1 ?h2 ?_; (case B => k_asm); (case F => k_asm); (case X => k_asm); (case T => k_asm); (case hk => first | exact rfl | assumption); (case hd => ktr_unf); (case hu => ktr_unf); (case h1 => assumption); (case h2 => assumption)); intro h9 t9 tk9 K9; (have N9 := K9.news0 (by assumption)); (have F9 := K9.fr)))
local macro_rules | `(tactic| walk_at "call ref") => `(tactic| ((try dsimp only [List.cons_append, List.nil_append]); (with_reducible show wpAny _ _ (call (Value.ref 123) [Value.ref _, Value.int _ _]) _ _ _); k_dflt (refine' autosize_m_ok ?B ?F ?X ?T ?hk ?hd ?hu ?h1 ?h2 ?_; (case B => k_asm); (case F => k_asm); (case X => k_asm); (case T => k_asm); (case hk => first | exact rfl | assumption); (case hd => ktr_unf); (case hu => ktr_unf); (case h1 => assumption); (case h2 => assumption)); intro h9 t9 tk9 K9; (have N9 := K9.news0 (by assumption)); (have F9 := K9.fr)))
local macro_rules | `(tactic| ktr_enter) => `(tactic| (
  refine' enterK ?k1 ?k2 ?k3 ?k4 ?k5 ?kA ?kF ?kK ?k6 ?k7 ?k8 ?k9 ?kB ?_ ?c5 ?c2 ?c3 ?c4;
  (case kA => exact rfl); (case kF => exact rfl); (case kK => assumption); (case k1 => assumption); (case k2 => assumption); (case k3 => assumption); (case k4 => assumption); (case k5 => assumption);
  (case k6 => k_is); (case k7 => k_is); (case k8 => first | (simp only [recursionLimit]; omega) | ktr_room); (case k9 => (rename (∀ _ _ _ _, _ → BindsTo _ _ _ _) => hbX); exact hbX _ _ _ _ (by k_is)); (case c5 => decide); (case kB => exact locs rfl); (case c2 => exact rfl); (case c3 => exact rfl); (case c4 => exact rfl)))
local macro_rules | `(tactic| k_handed) => `(tactic| exact handed_vO)
local macro_rules | `(tactic| walk_at "compareOp IsNot") => `(tactic| ((with_reducible show wpAny _ _ (compareOp CmpOp.IsNot (vO _ _) Value.none) _ _ _); refine isNot_vO ?_))
local macro_rules | `(tactic| walk_at "compareOp Is") => `(tactic| ((with_reducible show wpAny _ _ (compareOp CmpOp.Is (vO _ _) Value.none) _ _ _); refine is_vO ?_))
local macro_rules | `(tactic| walk_at "exec Try") => `(tactic| refine Stop.mk ?_)
section
variable {w : World} {A₀ : Around} {s : Shared} {base h₀ : Heap} {outer : List Env} {L : Addr} {m : Str → Option Value} {mean : ExcName → Option Value} {mg mb : Str → Option Value}
  {Q E : Value → Shared → Prop} {dp un : Nat} {gd : Option (List Code)} {cn : Str} {cs : Scope} {a : Addr} {ccd : Value} {cl : List (Str × Addr)}

theorem setf_ok {pos : List Value} {kw : List (Str × Value)} {x dx al : Addr} {ad sz : Int} {a₁ m₁ low high : Option Int} {t0 t1 t2 t3 t4 ta ts tl th p q : Tok} (B : Below A₀ base outer h₀) (F : Fr h₀ L s.heap m) (X : (hd.heap_39 w.params).In h₀) (T : Top hd.view_39 LO mean mg mb h₀) (XTB : BaseOk w mean mg mb base)
   (hke : cs.kind = .function) (hdp : dp + 30 < 1000) (hun : un + 300 < 9900) (hx1 : @Ne Nat dx x)
   (N : News h₀ L s.heap [(x, instObj 157 dx), (dx, dictOf (locEs w t0 t1 t2 t3 t4 (.int ad ta) (.int sz ts) (vO low tl) (vO high th) (.ref al)) 5)])
   (hb : ∀ oc od fd osl, (hd.heap_39 w.params).lookup 109 = some ⟨oc, od, .func fd, osl⟩ → BindsTo s fd ⟨pos, kw⟩ [(Str.ofString "self", .ref x), (Str.ofString "address_format", vO a₁ p), (Str.ofString "memorysize_format", vO m₁ q)])
   (ha1 : 1 ≤ ad) (ha2 : ad < 2 ^ 56) (hs1 : 1 ≤ sz) (hs2 : sz < 2 ^ 56)
   (hQ : e8 (fA (low.or a₁) ad) = true → e8 (fA (high.or m₁) sz) = true → ∀ al dal k0 k1 k2 k3 k4 k5 h' tk', Back h₀ L m [dx] s.heap h' → s.heap.objs.size ≤ dal → dal < al →
      News h₀ L h' [(al, instObj 82 dal), (dal, dictOf (alfEs w k0 k1 (.int (fA (high.or m₁) sz) k2) (.int (fA (low.or a₁) ad) k3)) 2), (x, instObj 157 dx), (dx, dictOf (locEs w t0 t1 t2 t3 t4 (.int ad ta) (.int sz ts) (vO (low.or a₁) k4) (vO (high.or m₁) k5) (.ref al)) 5)] → Q .none { s with heap := h', toks := tk' })
   (hE : ¬ (e8 (fA (low.or a₁) ad) = true ∧ e8 (fA (high.or m₁) sz) = true) → ∀ e h' tk', Flown base (envX cn cs L a ccd cl :: outer) s.heap e h' → E (.ref e) { s with heap := h', toks := tk' }) :
   wpAny (model PySem.Challenge.rw_eh5030_01.row.prog w) (ktrTop dp un (some []) cn cs L a ccd cl outer) (call (.ref 109) pos kw) Q E s := by
  refine wpAny_call ?_
  k_dflt ktr_enter
  have hN := gets N
  intro g L' h₁ kg lL FG F N B X T
  (try dsimp only); (try k_fold)
  k_steps
  refine wpAny_Try_except ?_
  refine join1 (fun t' => [(x, instObj 157 dx), (dx, dictOf (locEs w t0 t1 t2 t3 t4 (.int ad ta) (.int sz ts) (vO (low.or a₁) t') (vO high th) (.ref al)) 5)]) (by assumption) ?jA ?jB
  case jA =>
    k_steps
    all_goals
      first
        | exact ⟨rfl, _, _, _, rfl, by assumption, by rw [or1 (x := low) (y := a₁) (by assumption)]; assumption⟩
        | exact ⟨rfl, _, _, _, rfl, by assumption, by rw [or2 (x := low) (y := a₁) (by assumption)]; assumption⟩
        | exact ⟨rfl, _, _, _, rfl, by assumption, by rw [or3 (x := low) (y := a₁) (by assumption)]; assumption⟩
  intro h' tk' t' F' N'
  refine join1 (fun t'' => [(x, instObj 157 dx), (dx, dictOf (locEs w t0 t1 t2 t3 t4 (.int ad ta) (.int sz ts) (vO (low.or a₁) t') (vO (high.or m₁) t'') (.ref al)) 5)]) (by assumption) ?jC ?jD
  case jC =>
    k_steps
    all_goals
      first
        | exact ⟨rfl, _, _, _, rfl, by assumption, by rw [or1 (x := high) (y := m₁) (by assumption)]; assumption⟩
        | exact ⟨rfl, _, _, _, rfl, by assumption, by rw [or2 (x := high) (y := m₁) (by assumption)]; assumption⟩
        | exact ⟨rfl, _, _, _, rfl, by assumption, by rw [or3 (x := high) (y := m₁) (by assumption)]; assumption⟩
  intro h' tk' t'' F' N'
  have hfa : ∀ t : Tok, (low.or a₁).isSome = true → vO (low.or a₁) t = .int (fA (low.or a₁) ad) t := fun t h => by cases hq : low.or a₁ with | none => rw [hq] at h; cases h | some i => rfl
  have hfm : ∀ t : Tok, (high.or m₁).isSome = true → vO (high.or m₁) t = .int (fA (high.or m₁) sz) t := fun t h => by cases hq : high.or m₁ with | none => rw [hq] at h; cases h | some i => rfl
  have hfa0 : (low.or a₁).isSome = false → fA (low.or a₁) ad = 8 * octs ad := fun h => by cases hq : low.or a₁ with | none => rfl | some i => rw [hq] at h; cases h
  have hfm0 : (high.or m₁).isSome = false → fA (high.or m₁) sz = 8 * octs sz := fun h => by cases hq : high.or m₁ with | none => rfl | some i => rw [hq] at h; cases h
  generalize fA (low.or a₁) ad = fa at hfa hfa0 hQ hE ⊢
  generalize fA (high.or m₁) sz = fm at hfm hfm0 hQ hE ⊢
  refine join2 (Str.ofString "address_format") fa [(x, instObj 157 dx), (dx, dictOf (locEs w t0 t1 t2 t3 t4 (.int ad ta) (.int sz ts) (vO (low.or a₁) t') (vO (high.or m₁) t'') (.ref al)) 5)] (by assumption) ?jE ?jF
  case jE =>
    k_steps
    all_goals first
      | exact ⟨rfl, _, _, _, rfl, by rw [← hfa _ (by assumption)]; assumption, by assumption⟩
      | exact ⟨rfl, _, _, _, rfl, by rw [hfa0 (by assumption)]; assumption, by assumption⟩
      | exact ⟨trivial, _, _, _, rfl, by rw [hfa0 (by assumption)]; assumption, by assumption⟩
      | trace_state
  intro h' tk' t6' F' N'
  refine join2 (Str.ofString "memorysize_format") fm [(x, instObj 157 dx), (dx, dictOf (locEs w t0 t1 t2 t3 t4 (.int ad ta) (.int sz ts) (vO (low.or a₁) t') (vO (high.or m₁) t'') (.ref al)) 5)] (by assumption) ?jG ?jH
  case jG =>
    k_steps
    all_goals first
      | exact ⟨rfl, _, _, _, rfl, by rw [← hfm _ (by assumption)]; assumption, by assumption⟩
      | exact ⟨rfl, _, _, _, rfl, by rw [hfm0 (by assumption)]; assumption, by assumption⟩
      | exact ⟨trivial, _, _, _, rfl, by rw [hfm0 (by assumption)]; assumption, by assumption⟩
  intro h' tk' t7' F' N'
  by_cases he : e8 fa = true ∧ e8 fm = true
  · obtain ⟨he1, he2⟩ := he
    have hL9 := F'.ns.lt
    k_steps
    refine' hQ he1 he2 _ _ _ _ _ _ _ _ _ _ ?bk ?o1 ?o2 ?nn
    case nn => assumption
    case o1 => exact Nat.le_of_lt (Nat.lt_of_le_of_lt lL (Nat.lt_of_lt_of_le hL9 (by assumption)))
    case o2 => assumption
    case bk => exact back_led kg hN (by assumption) (by assumption) (by assumption) (List.forall_mem_cons.mpr ⟨.inr (by k_mem), List.forall_mem_cons.mpr ⟨.inl (List.mem_singleton.mpr rfl), List.forall_mem_nil _⟩⟩)
  · have hbad := he
    have hE' := hE he
    clear he hE
    k_steps
    refine bare_catch (by assumption) (by assumption) (by assumption) (by assumption) XTB.1 XTB.2 ?_
    intro h6 g6 Tp oe oT TT F6 N6 K6 X6 T6 hTe hne be bT tr
    have n1 : @Ne Nat x _ := (hne _ (.head _)).1
    have n2 : @Ne Nat x Tp := (hne _ (.head _)).2
    have n3 : @Ne Nat dx _ := (hne _ (.tail _ (.head _))).1
    have n4 : @Ne Nat dx Tp := (hne _ (.tail _ (.head _))).2
    have n5 : @Ne Nat Tp _ := hTe
    k_steps
    refine raise_out (news := [(x, instObj 157 dx), (dx, dictOf (locEs w t0 t1 t2 t3 t4 (.int ad ta) (.int sz ts) (vO low tl) (vO high th) (.ref al)) 5)]) kg lL TT K6 (by assumption) (by assumption) hN (List.forall_mem_cons.mpr ⟨⟨n1, n2⟩, List.forall_mem_cons.mpr ⟨⟨n3, n4⟩, List.forall_mem_nil _⟩⟩) hTe be bT tr rfl ?_
    intro h9 IH
    refine leave_hand IH fun h9 Fl => ?_
    exact hE' _ _ _ Fl
end
end Mine
namespace Mine
open PySem PySem.Calls PySem.Spec
theorem Stop.of {P : Prop} (h : P) : Stop P := h
theorem back_ledS {fs : List Addr} {h₀ g g' h h' : Heap} {L L' : Addr} {m m' : Str → Option Value} {ms : List Addr} {news news' : List (Addr × Obj)} (k : KeptA (news.map (·.1)) h g) (TT : KtsTurn fs g g') (hfs : ∀ b ∈ fs, b = L) (N : ∀ p ∈ news, h.get? p.1 = some p.2)
    (F : Fr h₀ L h' m) (F' : Fr g' L' h' m') (N' : News g' L' h' news') (hs : ∀ p ∈ news, p.1 ∈ ms ∨ p ∈ news') : Back h₀ L m ms h h' :=
  ⟨F, fun b o e hL hb => by
    by_cases hm : b ∈ news.map (·.1)
    · obtain ⟨p, hp, rfl⟩ := List.mem_map.mp hm
      rw [N p hp] at e
      cases e
      rcases hs p hp with q | q
      · exact absurd q hb
      · exact (N' p q).1
    · exact F'.keep b o (TT.other b o (k b o e hm) (fun q => hL (hfs b q)))⟩
section
variable {prog : Program} {w : World} {A₀ A : Around} {s : Shared} {base h₀ : Heap} {L a : Addr} {m : Str → Option Value} {cn : Str} {cs : Scope} {ccd : Value} {news : List (Addr × Obj)} {K : Frag} {p : Program} {loose : List Str} {mean : ExcName → Option Value} {mg mb : Str → Option Value}
    {R : Result → Shared → Prop} {name qual : Str} {params : Arguments} {body : List Stmt} {scope : Scope} {dV kV doc pm cdv ct oc : Value} {an od : Option Addr} {osl : Array (Option Value)} {f : Addr} {args : Args} {binds : List (Str × Value)}
theorem enterS (B : Below A₀ base [] h₀) (F : Fr h₀ L s.heap m) (X₀ : K.In h₀) (N : News h₀ L s.heap news) (T : Top p loose mean mg mb h₀) (hA : A.frames = some [envOf cn cs L a ccd]) (hck : cs.kind = .function)
    (ho : K.lookup f = some ⟨oc, od, .func (fnOf name qual params body scope dV kV doc pm an cdv ct), osl⟩) (hcd : codeIn K cdv qual = true) (hroom : A.depth < recursionLimit)
    (hbind : BindsTo s (fnOf name qual params body scope dV kV doc pm an cdv ct) args binds) (hloc : ∀ y ∈ binds, scope.names.lookup y.1 = some .local)
    (h : ∀ g L' h₁, KeptA (news.map (·.1)) s.heap g → s.heap.objs.size ≤ L' → Fr h₀ L g m → Fr g L' h₁ (fun y => binds.reverse.lookup y) → News g L' h₁ news → Below A base [envOf cn cs L a ccd] g → K.In g → Top p loose mean mg mb g → KtsDicts ([envOf cn cs L a ccd].filterMap (·.frame)) g →
      wpAny (model prog w) (A.deeper (envOf qual scope L' f cdv)) (execs body (envOf qual scope L' f cdv))
        (fun fl s' => LeaveS0 ([envOf cn cs L a ccd].filterMap (·.frame)) h₀ L m g R (match fl with | .ret v => v | _ => .none) s')
        (fun e s' => wpAny (model prog w) (A.deeper (envOf qual scope L' f cdv)) (leaving (envOf qual scope L' f cdv) e) (fun _ s'' => R (.error e) s'') (fun e' s'' => R (.error e') s'') s')
        { s with heap := h₁, toks := s.toks + binds.length })
    (hco : scope.isCoroutine = false) (hgen : scope.isGenerator = false) (hk : scope.kind = .function)
    (hcell : ∀ x ∈ scope.names, x.2 ≠ .cell) : codeAny (model prog w) A (.call (.ref f) args) R s := by
  have X := X₀.keeps F.keep
  refine codeAny_call_def (fd := fnOf name qual params body scope dV kV doc pm an cdv ct) (body := body) (binds := binds) hroom (X _ _ ho) rfl (T.nolimit.keeps F.keep) (codeRec_of X hcd) rfl hbind hcell hloc (fun h₁ hns hk₁ => ?_) hco hgen hk
  obtain ⟨oL, es, ep, hLg, hLd, hN, hNs, st, B₂⟩ := kts_enter B F N hA hck
  refine wpAny_mono (h _ s.heap.objs.size h₁ (fun b o e hb => hideAll_get _ e hb) (Nat.le_refl _) ⟨hN _ hLg, st, F.above⟩ ⟨hns, fun b o e => hk₁ b o (of_hideAll _ e), Nat.le_of_eq (hideAll_size _ _)⟩
    (fun p hp => ⟨hk₁ _ _ (N p hp).1, Nat.ne_of_lt (Heap.lt_size (N p hp).1), hideAll_none _ (List.mem_map_of_mem hp)⟩) B₂ (X₀.keeps st) (T.keeps st) (fun b hb => by
      rcases kts_mem hb with rfl | z
      · exact ⟨oL, es, ep, hLg, hLd⟩
      · simp at z)) (fun fl s' hl => ?_) fun _ _ y => y
  obtain ⟨g', L', m', news', T', F', N', k⟩ := hl
  have nL₀ : h₀.get? L = none := kts_self F
  obtain ⟨sl, hs⟩ := T'.up hLg
  refine k ⟨hNs sl _ (F'.keep _ _ hs), fun b o e => F'.keep b o (T'.other b o (st b o e) (fun q => by
    rcases kts_mem q with z | z
    · rw [z, nL₀] at e
      cases e
    · simp at z)), F.above⟩ fun p hp => ⟨(N' p hp).1, fun q => ?_, ?_⟩
  · have := (N' p hp).2.2; rw [q, hs] at this; cases this
  · cases q : h₀.get? p.1 with
    | none => rfl
    | some o =>
      obtain ⟨sl', hs'⟩ := T'.up (st _ _ q)
      have := (N' p hp).2.2
      rw [hs'] at this
      cases this
end
section
variable {prog : Program} {w : World} {A₀ : Around} {E : Value → Shared → Prop} {s' : Shared} {base g G : Heap} {outer : List Env} {L a e : Addr} {m : Str → Option Value} {name : Str} {scope : Scope} {cd : Value}
  {b₀ : Stmt} {suite : List Stmt} {pos np : Pos} {rest : List ExceptHandler} {Q : Flow → Shared → Prop} {news : List (Addr × Obj)} {KF : Frag} {p : Program} {loose : List Str} {mean : ExcName → Option Value} {mg mb : Str → Option Value} {x : Str}
theorem val_catch (Fl : Flown base (envOf name scope L a cd :: outer) G e s'.heap) (F : Fr g L G m) (N : News g L G news) (K : Below A₀ base outer g) (XB : KF.In base) (TB : Top p loose mean mg mb base)
  (ex : nsIn KF mainGlobals x = some none) (hv : bootBuiltins x = some (.type "ValueError")) (hn' : x ≠ "__name__")
  (k : ∀ h₆ g', KtsTurn (outer.filterMap (·.frame)) g g' → Fr g' L h₆ m → News g' L h₆ news → Below A₀ base outer g' → KF.In g' → Top p loose mean mg mb g' →
     wpAny (model prog w) ((A₀.deeper (envOf name scope L a cd)).mark (some (.ref e))) (execs (b₀ :: suite) (envOf name scope L a cd)) Q E { s' with heap := h₆ })
  (hk : scope.kind = .function) (hx : (envOf name scope L a cd).kindOf x = some .globalImplicit) (hd : (x == ("__debug__" : Str)) = false)
  (hE : PassesOwnAt (model prog w) ((A₀.deeper (envOf name scope L a cd)).mark (some (.ref e))) (A₀.deeper (envOf name scope L a cd)) (envOf name scope L a cd) E) :
    wpAny (model prog w) (A₀.deeper (envOf name scope L a cd)) (noteFrame (.ref e) (envOf name scope L a cd))
      (fun _ s₂ => wpAny (model prog w) (A₀.deeper (envOf name scope L a cd)) (setFlight (.ref e) none) (fun _ s₃ =>
        wpAny (model prog w) (A₀.deeper (envOf name scope L a cd)) (handleBy (.ref e) (envOf name scope L a cd) (.ExceptHandler (some (.Name x np)) none (b₀ :: suite) pos :: rest)) Q E s₃) E s₂) E s' := by
  obtain ⟨U, B, a0, hB, hBG, _, hfl⟩ := Fl
  refine wpAny_looks_onW (Around.frames_deeper K.stack) rfl hfl fun h₄ hheld₄ hsm₄ => ?_
  refine wpAny_landsW hheld₄ fun h₅ hheld hsm₅' => ?_
  have hsm₅ := hsm₄.trans hsm₅'
  obtain ⟨g₅, T₅, F₅, K₅⟩ := kts_ground K F hBG hheld.1 (U.trans hsm₅)
  have X₅ : KF.In g₅ := XB.keeps K₅.stays
  have P₅ : TopRead p loose mg mb g₅ := topRead_of (TB.keeps K₅.stays)
  obtain ⟨ob, hob, hobc⟩ := hheld.there
  refine wpAny_handleBy_builtin (X := "ValueError") (T := "ValueError") (b := true) PySem.F.isExc_ValueError PySem.F.notTuple_ValueError (by rw [isSubtype_type]; kernel_rfl!) (name_B F₅ X₅ P₅ ex hv hn' ⟨rfl, ⟨ob, hob, hobc⟩, ?_⟩ hk hx hd)
  refine lands_againW hheld fun h₆ hfl₆ hsm₆ => ?_
  have hsm := (U.trans hsm₅).trans hsm₆
  obtain ⟨g₆, T₆, F₆, K₆⟩ := kts_ground K F hBG hfl₆.1 hsm
  have nB : ∀ q ∈ news, B.get? q.1 = some q.2 := fun q hq => hBG _ _ (N q hq).1 (fun hm => by
    rcases kts_mem hm with z | z
    · exact (N q hq).2.1 z
    · obtain ⟨_, o, ho, _⟩ := K.frames.mem z
      rw [(N q hq).2.2] at ho; cases ho)
  exact wpAny_passesOwnAt hE (k h₆ g₆ T₆ F₆ (fun q hq => ⟨hfl₆.1 _ _ (nB q hq), (N q hq).2.1, T₆.none_ _ (N q hq).2.2⟩) K₆ (XB.keeps K₆.stays) (TB.keeps K₆.stays))
end
end Mine
namespace Mine
open PySem PySem.Calls PySem.Spec
section
variable {prog : Program} {w : World} {A₀ A : Around} {s : Shared} {base h₀ : Heap} {L a : Addr} {m : Str → Option Value} {cn : Str} {cs : Scope} {ccd : Value} {news : List (Addr × Obj)} {K : Frag} {p : Program} {loose : List Str} {mean : ExcName → Option Value} {mg mb : Str → Option Value}
    {R : Result → Shared → Prop} {name qual : Str} {params : Arguments} {body : List Stmt} {scope : Scope} {dV kV doc pm cdv ct oc : Value} {an od : Option Addr} {osl : Array (Option Value)} {f : Addr} {args : Args} {binds : List (Str × Value)}
theorem enterSC (B : Below A₀ base [] h₀) (F : Fr h₀ L s.heap m) (X₀ : K.In h₀) (N : News h₀ L s.heap news) (T : Top p loose mean mg mb h₀) (hA : A.frames = some [envOf cn cs L a ccd]) (hck : cs.kind = .function)
    (ho : K.lookup f = some ⟨oc, od, .func (fnOf name qual params body scope dV kV doc pm an cdv ct), osl⟩) (hcd : codeIn K cdv qual = true) (hroom : A.depth < recursionLimit)
    (hbind : BindsTo s (fnOf name qual params body scope dV kV doc pm an cdv ct) args binds) (hkind : (binds.all fun y => scope.names.lookup y.1 == some .local || scope.names.lookup y.1 == some .cell) = true)
    (hnd : ((cellsFrom 0 scope.names []).map (·.1)).Nodup)
    (h : ∀ g L' h₁ tk cells, KeptA (news.map (·.1)) s.heap g → s.heap.objs.size ≤ L' → Fr h₀ L g m → Fr g L' h₁ (bindL (envOfC qual scope L' f cdv).kindOf binds fun _ => none) → News g L' h₁ (cells ++ news) →
      CellsAre (bindC (envOfC qual scope L' f cdv).kindOf binds fun _ => none) (cellsFrom (L' + 1) scope.names []) cells → Below A base [envOf cn cs L a ccd] g → K.In g → Top p loose mean mg mb g → KtsDicts ([envOf cn cs L a ccd].filterMap (·.frame)) g → (∀ p ∈ news, p.1 < L') →
      wpAny (model prog w) (A.deeper (envOfC qual scope L' f cdv)) (execs body (envOfC qual scope L' f cdv))
        (fun fl s' => LeaveS0 ([envOf cn cs L a ccd].filterMap (·.frame)) h₀ L m g R (match fl with | .ret v => v | _ => .none) s')
        (fun e s' => wpAny (model prog w) (A.deeper (envOfC qual scope L' f cdv)) (leaving (envOfC qual scope L' f cdv) e) (fun _ s'' => R (.error e) s'') (fun e' s'' => R (.error e') s'') s')
        { s with heap := h₁, toks := tk })
    (hco : scope.isCoroutine = false) (hgen : scope.isGenerator = false) (hk : scope.kind = .function) : codeAny (model prog w) A (.call (.ref f) args) R s := by
  have X := X₀.keeps F.keep
  obtain ⟨oL, es, ep, hLg, hLd, hN, hNs, st, B₂⟩ := kts_enter B F N hA hck
  refine codeAny_call_function hroom (X _ _ ho) rfl hco hgen rfl (codeRec_of X hcd) (hbind _ _ _ _ ?_)
  refine wpAny_newFunctionEnv_cells hk (kindsX hkind _) fun env' he s' x => ?_
  subst he
  refine ⟨(T.nolimit.keeps F.keep).keeps x.toInCall.keep, codeAny_func ?_⟩
  obtain ⟨h₁, tk, rfl, _⟩ := x.done
  have hk₁ := x.toInCall.keep
  obtain ⟨cells, NC, Y⟩ := Cl.news (h₀ := s.heap) (Nat.le_refl _) fun n c hm => ⟨x.cell n c (lookup_of_mem_nodup (cellsFrom_names scope.names 0 (s.heap.objs.size + 1) [] [] rfl ▸ hnd) hm), x.above n c hm⟩
  refine wpAny_mono (h _ s.heap.objs.size h₁ tk cells (fun b o e hb => hideAll_get _ e hb) (Nat.le_refl _) ⟨hN _ hLg, st, F.above⟩ ⟨x.toInCall.ns, fun b o e => hk₁ b o (of_hideAll _ e), Nat.le_of_eq (hideAll_size _ _)⟩ (fun p hp => ?_) Y B₂ (X₀.keeps st) (T.keeps st) (fun b hb => by
      rcases kts_mem hb with rfl | z
      · exact ⟨oL, es, ep, hLg, hLd⟩
      · simp at z) (fun p hp => Heap.lt_size (N p hp).1)) (fun fl s' hl => ?_) fun _ _ y => y
  · rcases List.mem_append.mp hp with hp | hp
    · refine ⟨(NC p hp).1, (NC p hp).2.1, ?_⟩
      cases q : (hideAll s.heap (news.map (·.1))).get? p.1 with
      | none => rfl
      | some o => have := of_hideAll _ q; rw [(NC p hp).2.2] at this; cases this
    · exact ⟨hk₁ _ _ (N p hp).1, Nat.ne_of_lt (Heap.lt_size (N p hp).1), hideAll_none _ (List.mem_map_of_mem hp)⟩
  · obtain ⟨g', L', m', news', T', F', N', k⟩ := hl
    have nL₀ : h₀.get? L = none := kts_self F
    obtain ⟨sl, hs⟩ := T'.up hLg
    refine k ⟨hNs sl _ (F'.keep _ _ hs), fun b o e => F'.keep b o (T'.other b o (st b o e) (fun q => by
      rcases kts_mem q with z | z
      · rw [z, nL₀] at e
        cases e
      · simp at z)), F.above⟩ fun p hp => ⟨(N' p hp).1, fun q => ?_, ?_⟩
    · have := (N' p hp).2.2; rw [q, hs] at this; cases this
    · cases q : h₀.get? p.1 with
      | none => rfl
      | some o =>
        obtain ⟨sl', hs'⟩ := T'.up (st _ _ q)
        have := (N' p hp).2.2
        rw [hs'] at this
        cases this
end
section
variable {prog : Program} {w : World} {A₀ : Around} {E : Value → Shared → Prop} {s' : Shared} {base g G : Heap} {outer : List Env} {L a e : Addr} {m : Str → Option Value} {name : Str} {scope : Scope} {cd : Value} {cl : List (Str × Addr)}
  {b₀ : Stmt} {suite : List Stmt} {pos np : Pos} {rest : List ExceptHandler} {Q : Flow → Shared → Prop} {news : List (Addr × Obj)} {KF : Frag} {p : Program} {loose : List Str} {mean : ExcName → Option Value} {mg mb : Str → Option Value} {x : Str}
theorem val_catchX (Fl : Flown base (envX name scope L a cd cl :: outer) G e s'.heap) (F : Fr g L G m) (N : News g L G news) (K : Below A₀ base outer g) (XB : KF.In base) (TB : Top p loose mean mg mb base)
  (ex : nsIn KF mainGlobals x = some none) (hv : bootBuiltins x = some (.type "ValueError")) (hn' : x ≠ "__name__")
  (k : ∀ h₆ g', KtsTurn (outer.filterMap (·.frame)) g g' → Fr g' L h₆ m → News g' L h₆ news → Below A₀ base outer g' → KF.In g' → Top p loose mean mg mb g' →
     wpAny (model prog w) ((A₀.deeper (envX name scope L a cd cl)).mark (some (.ref e))) (execs (b₀ :: suite) (envX name scope L a cd cl)) Q E { s' with heap := h₆ })
  (hk : scope.kind = .function) (hx : (envX name scope L a cd cl).kindOf x = some .globalImplicit) (hd : (x == ("__debug__" : Str)) = false)
  (hE : PassesOwnAt (model prog w) ((A₀.deeper (envX name scope L a cd cl)).mark (some (.ref e))) (A₀.deeper (envX name scope L a cd cl)) (envX name scope L a cd cl) E) :
    wpAny (model prog w) (A₀.deeper (envX name scope L a cd cl)) (noteFrame (.ref e) (envX name scope L a cd cl))
      (fun _ s₂ => wpAny (model prog w) (A₀.deeper (envX name scope L a cd cl)) (setFlight (.ref e) none) (fun _ s₃ =>
        wpAny (model prog w) (A₀.deeper (envX name scope L a cd cl)) (handleBy (.ref e) (envX name scope L a cd cl) (.ExceptHandler (some (.Name x np)) none (b₀ :: suite) pos :: rest)) Q E s₃) E s₂) E s' := by
  obtain ⟨U, B, a0, hB, hBG, _, hfl⟩ := Fl
  refine wpAny_looks_onW (Around.frames_deeper K.stack) rfl hfl fun h₄ hheld₄ hsm₄ => ?_
  refine wpAny_landsW hheld₄ fun h₅ hheld hsm₅' => ?_
  have hsm₅ := hsm₄.trans hsm₅'
  obtain ⟨g₅, T₅, F₅, K₅⟩ := kts_ground (name := name) (scope := scope) (a := a) (cd := cd) K F hBG hheld.1 (U.trans hsm₅)
  have X₅ : KF.In g₅ := XB.keeps K₅.stays
  have P₅ : TopRead p loose mg mb g₅ := topRead_of (TB.keeps K₅.stays)
  obtain ⟨ob, hob, hobc⟩ := hheld.there
  refine wpAny_handleBy_builtin (X := "ValueError") (T := "ValueError") (b := true) PySem.F.isExc_ValueError PySem.F.notTuple_ValueError (by rw [isSubtype_type]; kernel_rfl!) (nameX_B F₅ X₅ P₅ ex hv hn' ⟨rfl, ⟨ob, hob, hobc⟩, ?_⟩ hk hx hd)
  refine lands_againW hheld fun h₆ hfl₆ hsm₆ => ?_
  have hsm := (U.trans hsm₅).trans hsm₆
  obtain ⟨g₆, T₆, F₆, K₆⟩ := kts_ground (name := name) (scope := scope) (a := a) (cd := cd) K F hBG hfl₆.1 hsm
  have nB : ∀ q ∈ news, B.get? q.1 = some q.2 := fun q hq => hBG _ _ (N q hq).1 (fun hm => by
    rcases kts_mem (name := name) (scope := scope) (a := a) (cd := cd) hm with z | z
    · exact (N q hq).2.1 z
    · obtain ⟨_, o, ho, _⟩ := K.frames.mem z
      rw [(N q hq).2.2] at ho; cases ho)
  exact wpAny_passesOwnAt hE (k h₆ g₆ T₆ F₆ (fun q hq => ⟨hfl₆.1 _ _ (nB q hq), (N q hq).2.1, T₆.none_ _ (N q hq).2.2⟩) K₆ (XB.keeps K₆.stays) (TB.keeps K₆.stays))
end
theorem leave_true {fs : List Addr} {h₀ g g' : Heap} {L L' : Addr} {m m' : Str → Option Value} {news' : List (Addr × Obj)} {Q E : Value → Shared → Prop} {s' : Shared} {x : Bool} (hx : x = true) (F' : Fr g' L' s'.heap m') (N' : News g' L' s'.heap news') (T : KtsTurn fs g g')
    (k : Fr h₀ L s'.heap m → Q (.bool true) s') : LeaveS0 fs h₀ L m g (fun r s' => match r with | .ok (.ret v) => Q v s' | .ok _ => False | .error e => E e s') (.bool x) s' := by
  subst hx
  exact leaveS0_ F' N' T fun kF _ => k kF
end Mine
namespace Mine
open PySem PySem.Calls PySem.Spec
theorem rs_C2 : True := by w_top off; trivial
local macro_rules | `(tactic| ktr_enter) => `(tactic| (
  refine' enterK ?k1 ?k2 ?k3 ?k4 ?k5 ?kA ?kF ?kK ?k6 ?k7 ?k8 ?k9 ?kB ?_ ?c5 ?c2 ?c3 ?c4;
  (case kA => exact rfl); (case kF => exact rfl); (case kK => first | assumption | exact rfl); (case k1 => assumption); (case k2 => assumption); (case k3 => assumption); (case k4 => assumption); (case k5 => assumption);
  (case k6 => k_is); (case k7 => k_is); (case k8 => first | (simp only [recursionLimit]; omega) | ktr_room); (case k9 => first | exact BindsTo.of_eq rfl | exact binds_K (by k_in) rfl (by k_is) rfl rfl rfl); (case c5 => decide); (case kB => exact locs rfl); (case c2 => exact rfl); (case c3 => exact rfl); (case c4 => exact rfl)))
local macro_rules | `(tactic| walk_at "subscriptTail") => `(tactic| ((with_reducible show wpAny _ _ (subscriptTail _ _ (Value.ref 58) (Value.int _ _)) _ _ _); k_dflt (refine' item58 ?F ?X ?h ?_; (case F => k_asm); (case X => k_asm); (case h => assumption)); intro t'))
local macro_rules | `(tactic| walk_at "subscriptTail") => `(tactic| ((with_reducible show wpAny _ _ (subscriptTail _ _ (Value.ref 57) (Value.int _ _)) _ _ _); k_dflt (refine' item57 ?F ?X ?h ?_; (case F => k_asm); (case X => k_asm); (case h => assumption)); intro t'))
local macro_rules | `(tactic| walk_at "compareOp NotIn int ref") => `(tactic| ((with_reducible show wpAny _ _ (compareOp CmpOp.NotIn (Value.int _ _) (Value.ref 58)) _ _ _); k_dflt (refine' notin58 ?F ?X ?_; (case F => k_asm); (case X => k_asm))))
local macro_rules | `(tactic| walk_at "compareOp NotIn int ref") => `(tactic| ((with_reducible show wpAny _ _ (compareOp CmpOp.NotIn (Value.int _ _) (Value.ref 57)) _ _ _); k_dflt (refine' notin57 ?F ?X ?_; (case F => k_asm); (case X => k_asm))))
local macro_rules | `(tactic| walk_at "binaryOp LShift int int") => `(tactic| (refine lshift_int_small (by decide) (by decide) (by omega) ?_))
local macro_rules | `(tactic| walk_at "call builtin:_struct.pack") => `(tactic| ((with_reducible show wpAny _ _ (call (Value.builtin _) [Value.str _ _, Value.int _ _]) _ _ _); k_dflt (first | (refine' pack_B ?h0 ?h1 ?_; (case h0 => omega); (case h1 => omega)) | (refine' pack_q ?h0 ?h1 ?_; (case h0 => omega); (case h1 => omega))); intro t'))
local macro_rules | `(tactic| ktr_rel) => `(tactic| exact back_led (by assumption) (by assumption) (by assumption) (by assumption) (by assumption) (fun p hp => .inr hp))
local macro_rules | `(tactic| ktr_unf) => `(tactic| first | omega | ((try dsimp only [Around.deeper, Around.in1, Around.mark]); (try simp only [dU, uU]); (try dsimp only [ktrTop, Around.deeper, Around.in1, Around.mark]); omega))
local macro_rules | `(tactic| k_enter) => `(tactic| (ktr_enter; intro g' L' h' kg' lL' FG' F' N' B' X' T'; (try dsimp only); (try k_fold)))
local macro_rules | `(tactic| walk_at "call ref") => `(tactic| (k_here; k_dflt (refine' call_clsK ?k1 ?k2 ?k3 ?k4 ?k5 ?k6 ?_; (case k1 => k_asm); (case k2 => k_asm); (case k3 => k_asm); (case k4 => k_is); (case k5 => k_is); (case k6 => k_is); k_whole; intro x' d' h' x1 l1 l2 F' N'; (try ((have l9 := news_lt (by assumption) l1); (k_lt l9))); (try k_lt2 l1); (try k_lt2 l2); (try k_sweep); k_enter)))

local macro_rules | `(tactic| walk_at "getMethod ref") => `(tactic| ((with_reducible show wpAny _ _ (getMethod (Value.ref 57) (Str.ofString "keys") _) _ _ _); k_dflt (refine' getKeys (D := D8) ?K ?F ?_; (case K => exact map57 (by k_asm)); (case F => k_asm))))
local macro_rules | `(tactic| walk_at "getMethod ref") => `(tactic| ((with_reducible show wpAny _ _ (getMethod (Value.ref 58) (Str.ofString "keys") _) _ _ _); k_dflt (refine' getKeys (D := D8) ?K ?F ?_; (case K => exact map58 (by k_asm)); (case F => k_asm))))
local macro_rules | `(tactic| walk_at "call builtin:dict.keys") => `(tactic| ((with_reducible show wpAny _ _ (call (Value.builtin "dict.keys") [Value.ref 57]) _ _ _); k_dflt (refine' callKeys (D := D8) ?K ?F ?N ?_; (case K => exact map57 (by k_asm)); (case F => k_asm); (case N => k_asm)); intro v9 h9 F9 N9 l9; (try k_lt l9); (try k_sweep)))
local macro_rules | `(tactic| walk_at "call builtin:dict.keys") => `(tactic| ((with_reducible show wpAny _ _ (call (Value.builtin "dict.keys") [Value.ref 58]) _ _ _); k_dflt (refine' callKeys (D := D8) ?K ?F ?N ?_; (case K => exact map58 (by k_asm)); (case F => k_asm); (case N => k_asm)); intro v9 h9 F9 N9 l9; (try k_lt l9); (try k_sweep)))
local macro_rules | `(tactic| walk_at "call type:list") => `(tactic| ((with_reducible show wpAny _ _ (call (Value.type _) [Value.ref _]) _ _ _); k_dflt (first | (refine' listKeys (a := 57) ?K ?hh ?F ?N ?hv ?_; (case K => exact map57 (by k_asm)); (case hh => exact rfl); (case F => k_asm); (case N => k_asm); (case hv => k_mem)) | (refine' listKeys (a := 58) ?K ?hh ?F ?N ?hv ?_; (case K => exact map58 (by k_asm)); (case hh => exact rfl); (case F => k_asm); (case N => k_asm); (case hv => k_mem))); intro B9 c9 h9 tk9 t91 t92 t93 t94 t95 t96 t97 t98 F9 N9 l9; (try k_lt l9); (try k_sweep)))
local macro_rules | `(tactic| walk_at "binaryOp Mod str ref") => `(tactic| (k_dflt (first | (refine' modL (Y := F1) ?e meetsL ?hg ?hu ?F ?N ?hB ?_; (case e => decide +kernel); (case hg => exact rfl); (case hu => ((show _ < 9900); ktr_unf)); (case F => k_asm); (case N => k_asm); (case hB => k_mem)) | (refine' modL (Y := F2) ?e meetsL2 ?hg ?hu ?F ?N ?hB ?_; (case e => decide +kernel); (case hg => exact rfl); (case hu => ((show _ < 9900); ktr_unf)); (case F => k_asm); (case N => k_asm); (case hB => k_mem))); intro h9 tk9 T9 u9 F9 N9; (try k_sweep)))
local macro_rules | `(tactic| walk_at "leaving ref") => `(tactic| (first
  | (refine' leave_raiseS ?k1 ?k0 ?k2 ?k3 ?_; (case k0 => first | assumption | exact Heap.MadeExc.of (by assumption)); (case k2 => assumption); (case k1 => assumption); (case k3 => k_asm); k_whole; intro h' t' S' R' U'; (try dsimp only at S' R' U' ⊢))
  | (refine' leave_onS ?k1 ?k2 ?k3 ?k4 ?_; (case k3 => assumption); (case k2 => assumption); (case k1 => assumption); (case k4 => assumption); k_whole; intro h' S' R' U'; (try dsimp only at S' R' U' ⊢))))

local macro_rules | `(tactic| k_handed) => `(tactic| exact handed_vO)
local macro_rules | `(tactic| walk_at "compareOp IsNot") => `(tactic| ((with_reducible show wpAny _ _ (compareOp CmpOp.IsNot (vO _ _) Value.none) _ _ _); refine isNot_vO ?_))
local macro_rules | `(tactic| walk_at "compareOp Is") => `(tactic| ((with_reducible show wpAny _ _ (compareOp CmpOp.Is (vO _ _) Value.none) _ _ _); refine is_vO ?_))
local macro_rules | `(tactic| walk_at "call ref") => `(tactic| ((with_reducible show wpAny _ _ (call (Value.ref 109) _ _) _ _ _); refine Stop.mk ?_))
local macro_rules | `(tactic| ktr_enter) => `(tactic| (
  refine' enterS ?k1 ?k2 ?k3 ?k4 ?k5 ?kA ?kK ?k6 ?k7 ?k8 ?k9 ?kB ?_ ?c2 ?c3 ?c4 ?c5;
  (case kA => exact rfl); (case kK => assumption); (case k1 => assumption); (case k2 => assumption); (case k3 => assumption); (case k4 => assumption); (case k5 => assumption);
  (case k6 => k_is); (case k7 => k_is); (case k8 => first | (simp only [recursionLimit]; omega) | ktr_room); (case k9 => exact BindsTo.of_eq rfl); (case c5 => decide); (case kB => exact locs rfl); (case c2 => exact rfl); (case c3 => exact rfl); (case c4 => exact rfl)))
local macro_rules | `(tactic| walk_at "LeaveS0") => `(tactic| refine Stop.mk ?_)
theorem hb_of {K : Frag} {f : Addr} {oc0 : Value} {od0 : Option Addr} {fd0 : FuncData} {osl0 : Array (Option Value)} {s : Shared} {args : Args} {binds : List (Str × Value)} (e : K.lookup f = some ⟨oc0, od0, .func fd0, osl0⟩) (b : BindsTo s fd0 args binds) :
    ∀ oc od fd osl, K.lookup f = some ⟨oc, od, .func fd, osl⟩ → BindsTo s fd args binds := fun oc od fd osl hl => by
  rw [e] at hl; cases hl; exact b
section
variable {w : World} {A₀ : Around} {s : Shared} {base h₀ : Heap} {L : Addr} {m : Str → Option Value} {mean : ExcName → Option Value} {mg mb : Str → Option Value}
  {Q E : Value → Shared → Prop} {dp un : Nat} {cn : Str} {cs : Scope} {a : Addr} {ccd : Value}
theorem asked_ok {x dx al : Addr} {ad sz how : Int} {a₁ m₁ low high : Option Int} {t0 t1 t2 t3 t4 ta ts tl th p q r : Tok} (B : Below A₀ base [] h₀) (F : Fr h₀ L s.heap m) (X : (hd.heap_39 w.params).In h₀) (T : Top hd.view_39 LO mean mg mb h₀) (XTB : BaseOk w mean mg mb base)
   (hke : cs.kind = .function) (hdp : dp + 50 < 1000) (hun : un + 500 < 9900) (hx1 : @Ne Nat dx x)
   (N : News h₀ L s.heap [(x, instObj 157 dx), (dx, dictOf (locEs w t0 t1 t2 t3 t4 (.int ad ta) (.int sz ts) (vO low tl) (vO high th) (.ref al)) 5)])
   (ha1 : 1 ≤ ad) (ha2 : ad < 2 ^ 56) (hs1 : 1 ≤ sz) (hs2 : sz < 2 ^ 56)
   (hQ : e8 (fA (low.or a₁) ad) = true → e8 (fA (high.or m₁) sz) = true → ∀ al dal k0 k1 k2 k3 k4 k5 h' tk', Back h₀ L m [dx] s.heap h' → s.heap.objs.size ≤ dal → dal < al →
      News h₀ L h' [(al, instObj 82 dal), (dal, dictOf (alfEs w k0 k1 (.int (fA (high.or m₁) sz) k2) (.int (fA (low.or a₁) ad) k3)) 2), (x, instObj 157 dx), (dx, dictOf (locEs w t0 t1 t2 t3 t4 (.int ad ta) (.int sz ts) (vO (low.or a₁) k4) (vO (high.or m₁) k5) (.ref al)) 5)] → Q (.bool true) { s with heap := h', toks := tk' })
   (hE : ¬ (e8 (fA (low.or a₁) ad) = true ∧ e8 (fA (high.or m₁) sz) = true) → ∀ h' tk', Back h₀ L m [] s.heap h' → Q (.bool false) { s with heap := h', toks := tk' }) :
   wpAny (model PySem.Challenge.rw_eh5030_01.row.prog w) (ktrTop dp un (some []) cn cs L a ccd [] []) (call (.ref 294) [.ref x, vO a₁ p, vO m₁ q, .int how r] []) Q E s := by
  refine wpAny_call ?_
  k_dflt ktr_enter
  have hN := gets N
  intro g L' h₁ kg lL FG F N B X T D
  (try dsimp only); (try k_fold)
  have hL9 := F.ns.lt
  have hfs : ∀ b ∈ [envOf cn cs L a ccd].filterMap (·.frame), b = L := fun b hb => by
    rcases kts_mem hb with z | z
    · exact z
    · cases z
  have hms : ∀ al' k4 k5 al2 dal2 k0 k1 v1 v2, ∀ z ∈ [(x, instObj 157 dx), (dx, dictOf (locEs w t0 t1 t2 t3 t4 (.int ad ta) (.int sz ts) (vO low tl) (vO high th) (.ref al)) 5)], z.1 ∈ [dx] ∨ z ∈ [(al2, instObj 82 dal2), (dal2, dictOf (alfEs w k0 k1 v1 v2) 2), (x, instObj 157 dx), (dx, dictOf (locEs w t0 t1 t2 t3 t4 (.int ad ta) (.int sz ts) (vO (low.or a₁) k4) (vO (high.or m₁) k5) (.ref al')) 5)] := fun _ _ _ _ _ _ _ _ _ =>
    List.forall_mem_cons.mpr ⟨.inr (.tail _ (.tail _ (.head _))), List.forall_mem_cons.mpr ⟨.inl (List.mem_singleton.mpr rfl), List.forall_mem_nil _⟩⟩
  k_steps
  refine setf_ok (a₁ := a₁) (m₁ := m₁) (low := low) (high := high) (p := p) (q := q) (by assumption) (by assumption) (by assumption) (by assumption) XTB rfl (by ktr_unf) (by ktr_unf) hx1 (by assumption) ?hb ha1 ha2 hs1 hs2 ?jQ ?jE
  case hb => refine' hb_of ?e ?b; (case e => k_is); (case b => exact binds_K (by k_in) rfl (by k_is) rfl rfl rfl)
  case jQ =>
    intro e1 e2 al' dal' k0 k1 k2 k3 k4 k5 h9 tk9 K9 o1 o2 N9
    have F9 := K9.1
    (try dsimp only)
    k_steps
    refine Stop.of ?_
    show LeaveS0 _ _ _ _ _ _ _ _
    refine leaveS0_ (s' := { s with heap := h9, toks := tk9 }) K9.1 N9 KtsTurn.refl fun kF kN => ?_
    exact hQ e1 e2 _ _ _ _ _ _ _ _ _ _ (back_ledS kg KtsTurn.refl hfs hN kF K9.1 N9 (hms _ _ _ _ _ _ _ _ _)) (Nat.le_of_lt (Nat.lt_of_le_of_lt lL (Nat.lt_of_lt_of_le hL9 o1))) o2 kN
  case jE =>
    intro hbad e9 h9 tk9 Fl
    (try dsimp only)
    k_steps
    refine val_catch Fl F N B XTB.1 XTB.2 (by k_is) PyProof.Rows.Boot.«ValueError» (by decide) ?_ rfl rfl (by decide) (by passes_own)
    intro h6 g6 TT F6 N6 K6 X6 T6
    k_steps
    refine Stop.of ?_
    show LeaveS0 _ _ _ _ _ _ _ _
    refine' leaveS0_ ?F0 ?N0 ?T0 ?K0
    case F0 => exact F6
    case N0 => exact N6
    case T0 => exact TT
    case K0 => exact fun kF kN => hE hbad _ _ (back_ledS kg TT hfs hN kF F6 N6 (fun p hp => .inr hp))
  -- a is None
  refine setf_ok (a₁ := a₁) (m₁ := m₁) (low := low) (high := high) (p := p) (q := q) (by assumption) (by assumption) (by assumption) (by assumption) XTB rfl (by ktr_unf) (by ktr_unf) hx1 (by assumption) ?hb2 ha1 ha2 hs1 hs2 ?jQ2 ?jE2
  case hb2 =>
    obtain rfl : a₁ = none := Option.isNone_iff_eq_none.mp (by assumption)
    refine' hb_of ?e ?b; (case e => k_is); (case b => exact binds_K (by k_in) rfl (by k_is) rfl rfl rfl)
  case jQ2 =>
    intro e1 e2 al' dal' k0 k1 k2 k3 k4 k5 h9 tk9 K9 o1 o2 N9
    have F9 := K9.1
    (try dsimp only)
    k_steps
    refine Stop.of ?_
    show LeaveS0 _ _ _ _ _ _ _ _
    refine leaveS0_ (s' := { s with heap := h9, toks := tk9 }) K9.1 N9 KtsTurn.refl fun kF kN => ?_
    exact hQ e1 e2 _ _ _ _ _ _ _ _ _ _ (back_ledS kg KtsTurn.refl hfs hN kF K9.1 N9 (hms _ _ _ _ _ _ _ _ _)) (Nat.le_of_lt (Nat.lt_of_le_of_lt lL (Nat.lt_of_lt_of_le hL9 o1))) o2 kN
  case jE2 =>
    intro hbad e9 h9 tk9 Fl
    (try dsimp only)
    k_steps
    refine val_catch Fl F N B XTB.1 XTB.2 (by k_is) PyProof.Rows.Boot.«ValueError» (by decide) ?_ rfl rfl (by decide) (by passes_own)
    intro h6 g6 TT F6 N6 K6 X6 T6
    k_steps
    refine Stop.of ?_
    show LeaveS0 _ _ _ _ _ _ _ _
    refine' leaveS0_ ?F0 ?N0 ?T0 ?K0
    case F0 => exact F6
    case N0 => exact N6
    case T0 => exact TT
    case K0 => exact fun kF kN => hE hbad _ _ (back_ledS kg TT hfs hN kF F6 N6 (fun p hp => .inr hp))
  refine setf_ok (a₁ := a₁) (m₁ := m₁) (low := low) (high := high) (p := p) (q := q) (by assumption) (by assumption) (by assumption) (by assumption) XTB rfl (by ktr_unf) (by ktr_unf) hx1 (by assumption) ?hb3 ha1 ha2 hs1 hs2 ?jQ3 ?jE3
  case hb3 =>
    obtain rfl : m₁ = none := Option.isNone_iff_eq_none.mp (by assumption)
    refine' hb_of ?e ?b; (case e => k_is); (case b => exact binds_K (by k_in) rfl (by k_is) rfl rfl rfl)
  case jQ3 =>
    intro e1 e2 al' dal' k0 k1 k2 k3 k4 k5 h9 tk9 K9 o1 o2 N9
    have F9 := K9.1
    (try dsimp only)
    k_steps
    refine Stop.of ?_
    show LeaveS0 _ _ _ _ _ _ _ _
    refine leaveS0_ (s' := { s with heap := h9, toks := tk9 }) K9.1 N9 KtsTurn.refl fun kF kN => ?_
    exact hQ e1 e2 _ _ _ _ _ _ _ _ _ _ (back_ledS kg KtsTurn.refl hfs hN kF K9.1 N9 (hms _ _ _ _ _ _ _ _ _)) (Nat.le_of_lt (Nat.lt_of_le_of_lt lL (Nat.lt_of_lt_of_le hL9 o1))) o2 kN
  case jE3 =>
    intro hbad e9 h9 tk9 Fl
    (try dsimp only)
    k_steps
    refine val_catch Fl F N B XTB.1 XTB.2 (by k_is) PyProof.Rows.Boot.«ValueError» (by decide) ?_ rfl rfl (by decide) (by passes_own)
    intro h6 g6 TT F6 N6 K6 X6 T6
    k_steps
    refine Stop.of ?_
    show LeaveS0 _ _ _ _ _ _ _ _
    refine' leaveS0_ ?F0 ?N0 ?T0 ?K0
    case F0 => exact F6
    case N0 => exact N6
    case T0 => exact TT
    case K0 => exact fun kF kN => hE hbad _ _ (back_ledS kg TT hfs hN kF F6 N6 (fun p hp => .inr hp))
  refine setf_ok (a₁ := a₁) (m₁ := m₁) (low := low) (high := high) (p := p) (q := q) (by assumption) (by assumption) (by assumption) (by assumption) XTB rfl (by ktr_unf) (by ktr_unf) hx1 (by assumption) ?hb4 ha1 ha2 hs1 hs2 ?jQ4 ?jE4
  case hb4 => refine' hb_of ?e ?b; (case e => k_is); (case b => exact binds_K (by k_in) rfl (by k_is) rfl rfl rfl)
  case jQ4 =>
    intro e1 e2 al' dal' k0 k1 k2 k3 k4 k5 h9 tk9 K9 o1 o2 N9
    have F9 := K9.1
    (try dsimp only)
    k_steps
    refine Stop.of ?_
    show LeaveS0 _ _ _ _ _ _ _ _
    refine leaveS0_ (s' := { s with heap := h9, toks := tk9 }) K9.1 N9 KtsTurn.refl fun kF kN => ?_
    exact hQ e1 e2 _ _ _ _ _ _ _ _ _ _ (back_ledS kg KtsTurn.refl hfs hN kF K9.1 N9 (hms _ _ _ _ _ _ _ _ _)) (Nat.le_of_lt (Nat.lt_of_le_of_lt lL (Nat.lt_of_lt_of_le hL9 o1))) o2 kN
  case jE4 =>
    intro hbad e9 h9 tk9 Fl
    (try dsimp only)
    k_steps
    refine val_catch Fl F N B XTB.1 XTB.2 (by k_is) PyProof.Rows.Boot.«ValueError» (by decide) ?_ rfl rfl (by decide) (by passes_own)
    intro h6 g6 TT F6 N6 K6 X6 T6
    k_steps
    refine Stop.of ?_
    show LeaveS0 _ _ _ _ _ _ _ _
    refine' leaveS0_ ?F0 ?N0 ?T0 ?K0
    case F0 => exact F6
    case N0 => exact N6
    case T0 => exact TT
    case K0 => exact fun kF kN => hE hbad _ _ (back_ledS kg TT hfs hN kF F6 N6 (fun p hp => .inr hp))
end
end Mine
namespace Mine
open PySem PySem.Calls PySem.Spec
theorem rs_D1 : True := by w_top off; trivial
local macro_rules | `(tactic| ktr_enter) => `(tactic| (
  refine' enterK ?k1 ?k2 ?k3 ?k4 ?k5 ?kA ?kF ?kK ?k6 ?k7 ?k8 ?k9 ?kB ?_ ?c5 ?c2 ?c3 ?c4;
  (case kA => exact rfl); (case kF => exact rfl); (case kK => first | assumption | exact rfl); (case k1 => assumption); (case k2 => assumption); (case k3 => assumption); (case k4 => assumption); (case k5 => assumption);
  (case k6 => k_is); (case k7 => k_is); (case k8 => first | (simp only [recursionLimit]; omega) | ktr_room); (case k9 => first | exact BindsTo.of_eq rfl | exact binds_K (by k_in) rfl (by k_is) rfl rfl rfl); (case c5 => decide); (case kB => exact locs rfl); (case c2 => exact rfl); (case c3 => exact rfl); (case c4 => exact rfl)))
local macro_rules | `(tactic| walk_at "subscriptTail") => `(tactic| ((with_reducible show wpAny _ _ (subscriptTail _ _ (Value.ref 58) (Value.int _ _)) _ _ _); k_dflt (refine' item58 ?F ?X ?h ?_; (case F => k_asm); (case X => k_asm); (case h => assumption)); intro t'))
local macro_rules | `(tactic| walk_at "subscriptTail") => `(tactic| ((with_reducible show wpAny _ _ (subscriptTail _ _ (Value.ref 57) (Value.int _ _)) _ _ _); k_dflt (refine' item57 ?F ?X ?h ?_; (case F => k_asm); (case X => k_asm); (case h => assumption)); intro t'))
local macro_rules | `(tactic| walk_at "compareOp NotIn int ref") => `(tactic| ((with_reducible show wpAny _ _ (compareOp CmpOp.NotIn (Value.int _ _) (Value.ref 58)) _ _ _); k_dflt (refine' notin58 ?F ?X ?_; (case F => k_asm); (case X => k_asm))))
local macro_rules | `(tactic| walk_at "compareOp NotIn int ref") => `(tactic| ((with_reducible show wpAny _ _ (compareOp CmpOp.NotIn (Value.int _ _) (Value.ref 57)) _ _ _); k_dflt (refine' notin57 ?F ?X ?_; (case F => k_asm); (case X => k_asm))))
local macro_rules | `(tactic| walk_at "binaryOp LShift int int") => `(tactic| (refine lshift_int_small (by decide) (by decide) (by omega) ?_))
local macro_rules | `(tactic| walk_at "call builtin:_struct.pack") => `(tactic| ((with_reducible show wpAny _ _ (call (Value.builtin _) [Value.str _ _, Value.int _ _]) _ _ _); k_dflt (first | (refine' pack_B ?h0 ?h1 ?_; (case h0 => omega); (case h1 => omega)) | (refine' pack_q ?h0 ?h1 ?_; (case h0 => omega); (case h1 => omega))); intro t'))
local macro_rules | `(tactic| ktr_rel) => `(tactic| exact back_led (by assumption) (by assumption) (by assumption) (by assumption) (by assumption) (fun p hp => .inr hp))
local macro_rules | `(tactic| ktr_unf) => `(tactic| first | omega | ((try dsimp only [Around.deeper, Around.in1, Around.mark]); (try simp only [dU, uU]); (try dsimp only [ktrTop, Around.deeper, Around.in1, Around.mark]); omega))
local macro_rules | `(tactic| k_enter) => `(tactic| (ktr_enter; intro g' L' h' kg' lL' FG' F' N' B' X' T'; (try dsimp only); (try k_fold)))
local macro_rules | `(tactic| walk_at "call ref") => `(tactic| (k_here; k_dflt (refine' call_clsK ?k1 ?k2 ?k3 ?k4 ?k5 ?k6 ?_; (case k1 => k_asm); (case k2 => k_asm); (case k3 => k_asm); (case k4 => k_is); (case k5 => k_is); (case k6 => k_is); k_whole; intro x' d' h' x1 l1 l2 F' N'; (try ((have l9 := news_lt (by assumption) l1); (k_lt l9))); (try k_lt2 l1); (try k_lt2 l2); (try k_sweep); k_enter)))

local macro_rules | `(tactic| k_handed) => `(tactic| exact handed_vO)
local macro_rules | `(tactic| walk_at "compareOp IsNot") => `(tactic| ((with_reducible show wpAny _ _ (compareOp CmpOp.IsNot (vO _ _) Value.none) _ _ _); refine isNot_vO ?_))
local macro_rules | `(tactic| walk_at "compareOp Is") => `(tactic| ((with_reducible show wpAny _ _ (compareOp CmpOp.Is (vO _ _) Value.none) _ _ _); refine is_vO ?_))
section
variable {w : World} {A₀ : Around} {s : Shared} {base h₀ : Heap} {outer : List Env} {L : Addr} {m : Str → Option Value} {mean : ExcName → Option Value} {mg mb : Str → Option Value}
  {Q E : Value → Shared → Prop} {dp un : Nat} {gd : Option (List Code)} {cn : Str} {cs : Scope} {a : Addr} {ccd : Value} {cl : List (Str × Addr)}

theorem number_ok {n width : Int} {t u : Tok} (B : Below A₀ base outer h₀) (F : Fr h₀ L s.heap m) (X : (hd.heap_39 w.params).In h₀) (T : Top hd.view_39 LO mean mg mb h₀)
   (hke : cs.kind = .function) (hdp : dp + 10 < 1000) (hun : un + 100 < 9900)
   (hw1 : 1 ≤ width) (hw2 : width ≤ 7) 
   (hQ : ∀ h' t' tk', Back h₀ L m [] s.heap h' → Q (.int (1 + (n * 11400714819323198485).fmod (256 ^ width.toNat - 1)) t') { s with heap := h', toks := tk' }) :
   wpAny (model PySem.Challenge.rw_eh5030_01.row.prog w) (ktrTop dp un gd cn cs L a ccd cl outer) (call (.ref 273) [.int n t, .int width u] []) Q E s := by
  refine wpAny_call ?_
  have N : News h₀ L s.heap [] := News.nil
  k_dflt ktr_enter
  have hN := gets N
  intro g L' h₁ kg lL FG F N B X T
  (try dsimp only); (try k_fold)
  have hz : (256 : Int) ^ width.toNat - 1 ≠ 0 := by
    have h : (256 : Nat) ^ 1 ≤ 256 ^ width.toNat := Nat.pow_le_pow_right (by decide) (by omega)
    have h' : ((256 : Nat) ^ width.toNat : Int) = (((256 : Nat) ^ width.toNat : Nat) : Int) := by simp
    have h2 : (256 : Int) ^ width.toNat = (((256 : Nat) ^ width.toNat : Nat) : Int) := by simp
    omega
  k_steps
  exact hQ _ _ _ (by ktr_rel)
theorem fA_none (v : Int) : fA none v / 8 = octs v := by
  show 8 * octs v / 8 = octs v
  omega
theorem fA_some (i v : Int) : fA (some i) v / 8 = i.fdiv 8 := by
  show i / 8 = i.fdiv 8
  rw [Int.fdiv_eq_ediv_of_nonneg _ (by decide)]
abbrev cellOf (ad sz : Int) (low high : Option Int) (ta ts tl th t1 t2 : Tok) : List Value := [.int ad ta, .int sz ts, vO low tl, vO high th, .int (octs ad) t1, .int (octs sz) t2]
theorem mark_ok {c : Addr} {n : Nat} {ad sz : Int} {low high : Option Int} {ta ts tl th t1 t2 : Tok} (B : Below A₀ base outer h₀) (F : Fr h₀ L s.heap m) (X : (hd.heap_39 w.params).In h₀) (T : Top hd.view_39 LO mean mg mb h₀)
   (hke : cs.kind = .function) (hdp : dp + 10 < 1000) (hun : un + 100 < 9900)
   (N : News h₀ L s.heap [(c, listOf (cellOf ad sz low high ta ts tl th t1 t2).toArray n)])
   (hQ : ∀ h' t' tk', Back h₀ L m [] s.heap h' → Q (.int (fA high sz / 8 * 16 + fA low ad / 8) t') { s with heap := h', toks := tk' }) :
   wpAny (model PySem.Challenge.rw_eh5030_01.row.prog w) (ktrTop dp un gd cn cs L a ccd cl outer) (call (.ref 280) [.ref c] []) Q E s := by
  refine wpAny_call ?_
  k_dflt ktr_enter
  have hN := gets N
  intro g L' h₁ kg lL FG F N B X T
  (try dsimp only); (try k_fold)
  cases low <;> cases high
  all_goals
    (try dsimp only)
    simp only [fA_none, fA_some] at hQ
    k_steps
    exact hQ _ _ _ (by ktr_rel)
end
end Mine
namespace Mine
open PySem PySem.Calls PySem.Spec
theorem rs_D2 : True := by w_top off; trivial
local macro_rules | `(tactic| walk_at "zz") => `(tactic| fail)
local macro_rules | `(tactic| ktr_enter) => `(tactic| (
  refine' enterK ?k1 ?k2 ?k3 ?k4 ?k5 ?kA ?kF ?kK ?k6 ?k7 ?k8 ?k9 ?kB ?_ ?c5 ?c2 ?c3 ?c4;
  (case kA => exact rfl); (case kF => exact rfl); (case kK => first | assumption | exact rfl); (case k1 => assumption); (case k2 => assumption); (case k3 => assumption); (case k4 => assumption); (case k5 => assumption);
  (case k6 => k_is); (case k7 => k_is); (case k8 => first | (simp only [recursionLimit]; omega) | ktr_room); (case k9 => first | exact BindsTo.of_eq rfl | exact binds_K (by k_in) rfl (by k_is) rfl rfl rfl); (case c5 => decide); (case kB => exact locs rfl); (case c2 => exact rfl); (case c3 => exact rfl); (case c4 => exact rfl)))
local macro_rules | `(tactic| walk_at "subscriptTail") => `(tactic| ((with_reducible show wpAny _ _ (subscriptTail _ _ (Value.ref 58) (Value.int _ _)) _ _ _); k_dflt (refine' item58 ?F ?X ?h ?_; (case F => k_asm); (case X => k_asm); (case h => assumption)); intro t'))
local macro_rules | `(tactic| walk_at "subscriptTail") => `(tactic| ((with_reducible show wpAny _ _ (subscriptTail _ _ (Value.ref 57) (Value.int _ _)) _ _ _); k_dflt (refine' item57 ?F ?X ?h ?_; (case F => k_asm); (case X => k_asm); (case h => assumption)); intro t'))
local macro_rules | `(tactic| walk_at "compareOp NotIn int ref") => `(tactic| ((with_reducible show wpAny _ _ (compareOp CmpOp.NotIn (Value.int _ _) (Value.ref 58)) _ _ _); k_dflt (refine' notin58 ?F ?X ?_; (case F => k_asm); (case X => k_asm))))
local macro_rules | `(tactic| walk_at "compareOp NotIn int ref") => `(tactic| ((with_reducible show wpAny _ _ (compareOp CmpOp.NotIn (Value.int _ _) (Value.ref 57)) _ _ _); k_dflt (refine' notin57 ?F ?X ?_; (case F => k_asm); (case X => k_asm))))
local macro_rules | `(tactic| walk_at "binaryOp LShift int int") => `(tactic| (refine lshift_int_small (by decide) (by decide) (by omega) ?_))
local macro_rules | `(tactic| walk_at "call builtin:_struct.pack") => `(tactic| ((with_reducible show wpAny _ _ (call (Value.builtin _) [Value.str _ _, Value.int _ _]) _ _ _); k_dflt (first | (refine' pack_B ?h0 ?h1 ?_; (case h0 => omega); (case h1 => omega)) | (refine' pack_q ?h0 ?h1 ?_; (case h0 => omega); (case h1 => omega))); intro t'))
local macro_rules | `(tactic| ktr_rel) => `(tactic| exact back_led (by assumption) (by assumption) (by assumption) (by assumption) (by assumption) (fun p hp => .inr hp))
local macro_rules | `(tactic| ktr_unf) => `(tactic| first | omega | ((try dsimp only [Around.deeper, Around.in1, Around.mark]); (try simp only [dU, uU]); (try dsimp only [ktrTop, Around.deeper, Around.in1, Around.mark]); omega))
local macro_rules | `(tactic| k_enter) => `(tactic| (ktr_enter; intro g' L' h' kg' lL' FG' F' N' B' X' T'; (try dsimp only); (try k_fold)))
local macro_rules | `(tactic| walk_at "call ref") => `(tactic| (k_here; k_dflt (refine' call_clsK ?k1 ?k2 ?k3 ?k4 ?k5 ?k6 ?_; (case k1 => k_asm); (case k2 => k_asm); (case k3 => k_asm); (case k4 => k_is); (case k5 => k_is); (case k6 => k_is); k_whole; intro x' d' h' x1 l1 l2 F' N'; (try ((have l9 := news_lt (by assumption) l1); (k_lt l9))); (try k_lt2 l1); (try k_lt2 l2); (try k_sweep); k_enter)))

local macro_rules | `(tactic| k_handed) => `(tactic| exact handed_vO)
local macro_rules | `(tactic| walk_at "compareOp IsNot") => `(tactic| ((with_reducible show wpAny _ _ (compareOp CmpOp.IsNot (vO _ _) Value.none) _ _ _); refine isNot_vO ?_))
local macro_rules | `(tactic| walk_at "compareOp Is") => `(tactic| ((with_reducible show wpAny _ _ (compareOp CmpOp.Is (vO _ _) Value.none) _ _ _); refine is_vO ?_))
abbrev okO (x : Option Int) : Bool := match x with
  | none => true
  | some i => e8 i
theorem okO_fA {x : Option Int} {v : Int} (h1 : 1 ≤ v) (h2 : v < 2 ^ 56) : e8 (fA x v) = okO x := by
  cases x with
  | none => exact octs_e8 h1 h2
  | some i => rfl
section
variable {M : Model} {A : Around} {E : Value → Shared → Prop} {s : Shared} {env : Env} {st : Stmt} {rest : List Stmt} {Q : Flow → Shared → Prop} {h₀ : Heap} {L : Addr} {m : Str → Option Value}
theorem join3 {news : List (Addr × Obj)} (y : Str) (v : Option Int) (F : Fr h₀ L s.heap m) (N : News h₀ L s.heap news)
    (h1 : wpAny M A (exec st env) (fun f s' => Stop (f = .next ∧ ∃ h' tk t', s' = { s with heap := h', toks := tk } ∧ Fr h₀ L h' (fun z => if z = y then some (vO v t') else m z) ∧ News h₀ L h' news)) E s)
    (h2 : ∀ h' tk t', Fr h₀ L h' (fun z => if z = y then some (vO v t') else m z) → News h₀ L h' news → wpAny M A (execs rest env) Q E { s with heap := h', toks := tk }) : wpAny M A (execs (st :: rest) env) Q E s := by
  refine wpAny_execs_cons (wpAny_mono h1 (fun f s' x => ?_) fun _ _ y => y)
  obtain ⟨rfl, h', tk, t', rfl, F', N'⟩ := x
  exact h2 h' tk t' F' N'
end
abbrev tup8 (u1 u2 u3 u4 u5 u6 u7 u8 : Tok) : Obj := { cls := .type "tuple", data := .seq #[.int 8 u1, .int 16 u2, .int 24 u3, .int 32 u4, .int 40 u5, .int 48 u6, .int 56 u7, .int 64 u8] }
section
variable {prog : Program} {w : World} {A : Around} {E Q : Value → Shared → Prop} {s : Shared} {h₀ : Heap} {L D : Addr} {news : List (Addr × Obj)}
theorem newsT {p : Addr × Obj} {h : Heap} {l : List (Addr × Obj)} (N : News h₀ L h (p :: l)) : News h₀ L h l := fun q hq => N q (.tail _ hq)
theorem any8 (x : Int) : ([8, 16, 24, 32, 40, 48, 56, 64] : List Int).any (· == x) = e8 x := by
  have hc : ∀ a : Int, (a == x) = (x == a) := fun a => by
    cases h : (x == a) with
    | true => rw [beq_iff_eq] at h; subst h; simp
    | false => rw [beq_eq_false_iff_ne] at h ⊢; exact fun q => h q.symm
  simp only [List.any, hc, e8, Bool.or_false, Bool.or_assoc]
theorem notin8 {x : Option Int} {t u1 u2 u3 u4 u5 u6 u7 u8 : Tok} (hx : x.isSome = true) (N : News h₀ L s.heap news) (hm : (D, tup8 u1 u2 u3 u4 u5 u6 u7 u8) ∈ news) (h : Q (.bool (!okO x)) s) :
    wpAny (model prog w) A (compareOp .NotIn (vO x t) (.ref D)) Q E s := by
  cases x with
  | none => cases hx
  | some i =>
    refine notin_tuple_ints (ns := [8, 16, 24, 32, 40, 48, 56, 64]) ⟨_, (N _ hm).1, rfl, _, rfl⟩ (.cons _ _ (.cons _ _ (.cons _ _ (.cons _ _ (.cons _ _ (.cons _ _ (.cons _ _ (.cons _ _ .nil)))))))) ?_
    rw [any8]
    exact h
end
local macro_rules | `(tactic| walk_at "compareOp NotIn") => `(tactic| ((with_reducible show wpAny _ _ (compareOp CmpOp.NotIn (vO _ _) (Value.ref _)) _ _ _); k_dflt (refine' notin8 ?hx ?N ?hm ?_; (case hx => assumption); (case N => k_asm); (case hm => k_mem))))
local macro_rules | `(tactic| walk_at "execs cons") => `(tactic| ((with_reducible show wpAny _ _ (execs (Stmt.Assign _ (Expr.IfExp _ _ _ _) _ :: _) _) _ _ _); refine Stop.mk ?_))
section
variable {w : World} {A₀ : Around} {s : Shared} {base h₀ : Heap} {outer : List Env} {L : Addr} {m : Str → Option Value} {mean : ExcName → Option Value} {mg mb : Str → Option Value}
  {Q E : Value → Shared → Prop} {dp un : Nat} {gd : Option (List Code)} {cn : Str} {cs : Scope} {a : Addr} {ccd : Value} {cl : List (Str × Addr)}

theorem tell_ok {c : Addr} {n : Nat} {ad sz : Int} {a₁ m₁ low high : Option Int} {ta ts tl th t1 t2 p q : Tok} (B : Below A₀ base outer h₀) (F : Fr h₀ L s.heap m) (X : (hd.heap_39 w.params).In h₀) (T : Top hd.view_39 LO mean mg mb h₀)
   (hke : cs.kind = .function) (hdp : dp + 10 < 1000) (hun : un + 100 < 9900)
   (N : News h₀ L s.heap [(c, listOf (cellOf ad sz low high ta ts tl th t1 t2).toArray n)])
   (hQ : okO (low.or a₁) = true → okO (high.or m₁) = true → ∀ k1 k2 h' tk', Back h₀ L m [c] s.heap h' → News h₀ L h' [(c, listOf (cellOf ad sz (low.or a₁) (high.or m₁) ta ts k1 k2 t1 t2).toArray n)] → Q (.bool true) { s with heap := h', toks := tk' })
   (hE : ¬ (okO (low.or a₁) = true ∧ okO (high.or m₁) = true) → ∀ h' tk', Back h₀ L m [] s.heap h' → Q (.bool false) { s with heap := h', toks := tk' }) :
   wpAny (model PySem.Challenge.rw_eh5030_01.row.prog w) (ktrTop dp un gd cn cs L a ccd cl outer) (call (.ref 287) [.ref c, vO a₁ p, vO m₁ q] []) Q E s := by
  refine wpAny_call ?_
  k_dflt ktr_enter
  have hN := gets N
  intro g L' h₁ kg lL FG F N B X T
  (try dsimp only); (try k_fold)
  k_steps
  refine join3 (Str.ofString "x") (low.or a₁) (by assumption) (by assumption) ?jA ?jB
  case jA =>
    k_steps
    all_goals first
      | exact ⟨rfl, _, _, _, rfl, by rw [or1 (x := low) (y := a₁) (by assumption)]; assumption, by assumption⟩
      | exact ⟨rfl, _, _, _, rfl, by rw [or2 (x := low) (y := a₁) (by assumption)]; assumption, by assumption⟩
  intro h' tk' t' F' N'
  refine join3 (Str.ofString "y") (high.or m₁) (by assumption) (by assumption) ?jC ?jD
  case jC =>
    k_steps
    all_goals first
      | exact ⟨rfl, _, _, _, rfl, by rw [or1 (x := high) (y := m₁) (by assumption)]; assumption, by assumption⟩
      | exact ⟨rfl, _, _, _, rfl, by rw [or2 (x := high) (y := m₁) (by assumption)]; assumption, by assumption⟩
  intro h' tk' t' F' N'
  have hok1 : (low.or a₁).isSome = false → okO (low.or a₁) = true := fun h => by cases q : low.or a₁ with | none => rfl | some i => rw [q] at h; cases h
  have hok2 : (high.or m₁).isSome = false → okO (high.or m₁) = true := fun h => by cases q : high.or m₁ with | none => rfl | some i => rw [q] at h; cases h
  generalize low.or a₁ = x at *
  generalize high.or m₁ = y at *
  k_steps
  all_goals first
    | (refine' hQ ?o1 ?o2 _ _ _ _ ?bk ?nn
       case o1 => first | assumption | exact hok1 (by assumption)
       case o2 => first | assumption | exact hok2 (by assumption)
       case nn => exact newsT (by assumption)
       case bk => exact back_led kg hN (by assumption) (by assumption) (by assumption) (List.forall_mem_cons.mpr ⟨.inl (List.mem_singleton.mpr rfl), List.forall_mem_nil _⟩))
    | exact hE (fun z => Bool.noConfusion (z.1.symm.trans (by assumption))) _ _ (back_led kg hN (by assumption) (by assumption) (by assumption) (List.forall_mem_cons.mpr ⟨.inr (by k_mem), List.forall_mem_nil _⟩))
    | exact hE (fun z => Bool.noConfusion (z.2.symm.trans (by assumption))) _ _ (back_led kg hN (by assumption) (by assumption) (by assumption) (List.forall_mem_cons.mpr ⟨.inr (by k_mem), List.forall_mem_nil _⟩))
end
end Mine
namespace Mine
open PySem PySem.Calls PySem.Spec
section
variable {prog : Program} {w : World} {A : Around} {E : Value → Shared → Prop} {s : Shared}
theorem find0 {d : Addr} {k : Str} {t : Tok} {hsh : Int} {Q : Option Nat → Shared → Prop} (hd : s.heap.get? d = some (dictOf [] 0)) (h : Q none s) : wpAny (model prog w) A (dictFind d (.str k t) hsh) Q E s := by
  unfold dictFind
  refine wpAny_holding (wpAny_bind (wpAny_dictEntries hd rfl ?_))
  dsimp only
  rw [if_pos (by simp)]
  unfold foundByValue
  have e : (([] : List DictEntry).toArray.findIdx? fun x => x.key.isStr k) = none := by simp
  rw [e]
  exact wpAny_pure h
theorem merge1 {d D : Addr} {t : Tok} {n : Nat} {ex : List (Str × Value)} {Q : Unit → Shared → Prop} (hex : ex = [] ∨ ∃ k v, ex = [(k, v)]) (hd : s.heap.get? d = some (dictOf [] 0)) (hD : s.heap.get? D = some (dictOf (kwEs w.params t ex) n)) (lo : (D == sysModules) = false) (hne : D ≠ d)
    (h : ∀ h', Heap.SameBut d s.heap h' → (∃ n', h'.get? d = some (dictOf (kwEs w.params t ex) n')) → Q () { s with heap := h' }) : wpAny (model prog w) A (mergeMapping d (.ref D) true) Q E s := by
  have hT : s.TypeIs (.ref D) "dict" := ⟨_, hD, rfl⟩
  unfold mergeMapping
  refine wpAny_bind (wpAny_isInstance hT isSubtype_dict_dict ?_)
  simp only [if_true]
  refine wpAny_bind (wpAny_specialOf hT F.slot_dict_iter.lookup (wpAny_bind (wpAny_pure ?_)))
  simp only [beq_self_eq_true]
  rw [lo]
  simp only [Bool.false_eq_true, if_false]
  refine wpAny_bind (wpAny_dictEntries hd rfl ?_)
  simp only [Array.isEmpty_empty, List.isEmpty_toArray, List.isEmpty_nil, if_true]
  rcases hex with rfl | ⟨k, v, rfl⟩
  · refine wpAny_bind (wpAny_dictEntries hD rfl ?_)
    refine wpAny_bind (wpAny_pure ?_)
    refine wpAny_bind (wpAny_dictEntries hD rfl ?_)
    refine wpAny_bind (wpAny_dictEpoch hD rfl ?_)
    refine wpAny_bind (wpAny_pure ?_)
    exact wpAny_pure (h _ (Heap.SameBut.refl _ _) ⟨_, hd⟩)
  · refine wpAny_bind (wpAny_dictEntries hD rfl ?_)
    refine wpAny_bind ?_
    rw [← Array.forIn_toList]
    show wpAny _ _ (forIn [_] _ _) _ _ _
    rw [List.forIn_cons]
    refine wpAny_bind (wpAny_pure ?_)
    dsimp only
    rw [List.forIn_nil]
    refine wpAny_pure ?_
    refine wpAny_bind (wpAny_dictEntries hD rfl ?_)
    refine wpAny_bind (wpAny_dictEpoch hD rfl ?_)
    refine wpAny_bind ?_
    show wpAny _ _ (forIn [0] _ _) _ _ _
    rw [List.forIn_cons]
    refine wpAny_bind ?_
    refine wpAny_bind (wpAny_dictEntries hD rfl ?_)
    dsimp only [kwEs]
    refine wpAny_bind (wpAny_holding ?_)
    refine wpAny_bind (find0 hd ?_)
    simp only [Option.isSome_none, Bool.false_eq_true, if_false]
    unfold dictPut
    refine wpAny_bind (find0 hd ?_)
    dsimp only
    refine wpAny_updateDictKeys hd rfl ?_ (Nat.zero_le _) (Nat.le_refl _)
    have hsb := Heap.SameBut.update s.heap d (Obj.mapDictKeys (·.push (⟨PyData.keyHash w.params k, .str k t, v⟩ : DictEntry)))
    have hD' : (s.heap.update d (Obj.mapDictKeys (·.push (⟨PyData.keyHash w.params k, .str k t, v⟩ : DictEntry)))).get? D = _ := (hsb.2 D hne).trans hD
    refine wpAny_bind (wpAny_dictEpoch hD' rfl ?_)
    simp only [bne_self_eq_false, Bool.false_eq_true, if_false]
    refine wpAny_pure ?_
    dsimp only
    rw [List.forIn_nil]
    refine wpAny_pure (wpAny_pure (h _ hsb ⟨1, ?_⟩))
    rw [Heap.get?_update_self _ hd (Obj.isFreed_of_dict (Obj.data_mapDictKeys (o := dictOf [] 0) rfl _))]
    rfl
theorem merged1 {f : Value} {y : Sem Value} {D L : Addr} {t : Tok} {nD : Nat} {ex : List (Str × Value)} {h₀ : Heap} {m : Str → Option Value} {news : List (Addr × Obj)} {Q : Addr → Shared → Prop}
    (F : Fr h₀ L s.heap m) (N : News h₀ L s.heap news)
    (hy : ∀ s' (Q' : Value → Shared → Prop), Fr h₀ L s'.heap m → Q' (.ref D) s' → wpAny (model prog w) A y Q' E s')
    (hD : (D, dictOf (kwEs w.params t ex) nD) ∈ news) (hex : ex = [] ∨ ∃ k v, ex = [(k, v)]) (lo : (D == sysModules) = false)
    (h : ∀ h' d n', Fr h₀ L h' m → News h₀ L h' ((d, dictOf (kwEs w.params t ex) n') :: news) → Q d { s with heap := h' }) :
    wpAny (model prog w) A (mergedKeywords f [(none, y)]) Q E s := by
  have F1 := F.push (dictOf [] 0)
  have N1 := News.push F N (dictOf [] 0) rfl
  have hne : ∀ p ∈ news, p.1 ≠ s.heap.objs.size := fun p hp => Nat.ne_of_lt (Heap.lt_size (N p hp).1)
  unfold mergedKeywords
  refine wpAny_bind (wpAny_alloc ?_)
  refine wpAny_bind (wpAny_holding ?_)
  refine wpAny_bind ?_
  rw [List.forIn_cons]
  refine wpAny_bind (wpAny_bind (wpAny_pure ?_))
  refine wpAny_bind (hy _ _ F1 ?_)
  refine wpAny_bind (wpAny_onRaise (wpAny_holding (wpAny_tryCatch (wpAny_onRaise (merge1 hex (Heap.get?_push_size _ rfl) (N1 _ (.tail _ hD)).1 lo (hne _ hD) fun h' hsb hd => ?_)))))
  obtain ⟨n', hd⟩ := hd
  refine wpAny_pure ?_
  dsimp only
  rw [List.forIn_nil]
  refine wpAny_pure (wpAny_pure (wpAny_pure (h h' _ n' ?_ (List.forall_mem_cons.mpr ⟨⟨hd, (N1 _ (.head _)).2⟩, ?_⟩))))
  · exact F1.change hsb (N1 _ (.head _)).2.1 (N1 _ (.head _)).2.2
  · exact fun p hp => ⟨(hsb.2 _ (hne p hp)).trans (N1 p (.tail _ hp)).1, (N1 p (.tail _ hp)).2⟩
theorem callWith_SS {pos p1 p2 : Pos} {f : Value} {first vs : List Value} {e e2 : Expr} {env : Env} {C D L : Addr} {t : Tok} {nD : Nat} {ex : List (Str × Value)} {h₀ : Heap} {m : Str → Option Value} {news : List (Addr × Obj)} {Q : Value → Shared → Prop}
    (F : Fr h₀ L s.heap m) (N : News h₀ L s.heap news) (hk : ∀ h', Fr h₀ L h' m → News h₀ L h' news → ∃ k, (k = Keeper.frame ∨ k = Keeper.machine ∨ k = Keeper.boundFrame) ∧ Looks (model prog w) h' (keeperOf f) k)
    (hx : ∀ s' (Q' : Value → Shared → Prop), Fr h₀ L s'.heap m → Q' (.ref C) s' → wpAny (model prog w) A (eval e env) Q' E s')
    (hy : ∀ s' (Q' : Value → Shared → Prop), Fr h₀ L s'.heap m → Q' (.ref D) s' → wpAny (model prog w) A (eval e2 env) Q' E s')
    (hC : (C, ({ cls := .type "tuple", data := .seq vs.toArray } : Obj)) ∈ news) (hD : (D, dictOf (kwEs w.params t ex) nD) ∈ news) (hex : ex = [] ∨ ∃ k v, ex = [(k, v)]) (lo : (D == sysModules) = false) (hz : vs.length ≤ sizeLine)
    (h : ∀ h', Fr h₀ L h' m → News h₀ L h' news → wpAny (model prog w) A (call f (first ++ vs) ex) Q E { s with heap := h' }) :
    wpAny (model prog w) A (callWith pos f first (backTo pos (starEach [.Starred e p1] env)) (backToKw pos (keywordEach [⟨none, e2, p2⟩] env))) Q E s := by
  show wpAny (model prog w) A (callWith pos f first [(true, (do let v ← eval e env; standAt pos; pure v))] [(none, (do let v ← eval e2 env; standAt pos; pure v))]) Q E s
  unfold callWith
  refine wpAny_bind (wpAny_holding ?_)
  unfold evalArgs
  refine wpAny_bind (wpAny_bind (hx s _ F (wpAny_bind (wpAny_standAt (wpAny_pure ?_)))))
  refine wpAny_bind (wpAny_pure ?_)
  dsimp only
  refine wpAny_holding ?_
  have e0 : ([((none : Option Str), (do let v ← eval e2 env; standAt pos; pure v : Sem Value))].all fun x => x.fst.isSome) = false := rfl
  rw [e0]
  simp only [Bool.false_eq_true, if_false]
  refine wpAny_bind (merged1 F N (fun s' Q' F' hq => wpAny_bind (hy s' _ F' (wpAny_bind (wpAny_standAt (wpAny_pure hq))))) hD hex lo fun h' d n' F' N' => ?_)
  refine wpAny_bind ?_
  have z := star_seq (prog := prog) (w := w) (A := A) (E := E) (Q := fun ws s₃ => ws = vs ∧ ∃ h3, s₃ = { s with heap := h3 } ∧ Fr h₀ L h3 m ∧ News h₀ L h3 ((d, dictOf (kwEs w.params t ex) n') :: news)) (s := { s with heap := h' }) F' N' (.tail _ hC) rfl rfl (.inr rfl) (by simp) (by simpa using hz) (fun h3 F3 N3 => ⟨rfl, h3, rfl, F3, N3⟩)
  unfold StarOf at z
  refine wpAny_bind (wpAny_mono z (fun b s₂ hb => ?_) fun _ _ x => x)
  obtain ⟨rfl, hb⟩ := hb
  simp only [Bool.false_eq_true, if_false]
  refine wpAny_holding (wpAny_mono hb (fun ws s₃ hq => ?_) fun _ _ x => x)
  obtain ⟨rfl, h3, rfl, F3, N3⟩ := hq
  have hkw : ∀ (Q' : List (Str × Value) → Shared → Prop), Q' ex { s with heap := h3 } → wpAny (model prog w) A (keywordsIn f d) Q' E { s with heap := h3 } := fun Q' hQ' => by
    unfold keywordsIn
    refine wpAny_bind (wpAny_dictEntries (N3 _ (.head _)).1 rfl ?_)
    refine wpAny_bind ?_
    rw [← Array.forIn_toList]
    rcases hex with rfl | ⟨k, v, rfl⟩
    · exact wpAny_pure (wpAny_pure hQ')
    · show wpAny _ _ (forIn [_] _ _) _ _ _
      rw [List.forIn_cons]
      refine wpAny_bind (wpAny_pure ?_)
      dsimp only
      rw [List.forIn_nil]
      exact wpAny_pure (wpAny_pure hQ')
  refine wpAny_bind (wpAny_holding (hkw _ (wpAny_pure (wpAny_bind (wpAny_standAt ?_)))))
  obtain ⟨k, hk', Lk⟩ := hk _ F3 (fun p hp => N3 p (.tail _ hp))
  have tail : ∀ {tt : Sem Value}, wpAny (model prog w) A tt Q E { s with heap := h3 } → wpAny (model prog w) A (tt >>= fun r => holding [r] point >>= fun _ => pure r) Q E { s with heap := h3 } :=
    fun ht => wpAny_bind (wpAny_mono ht (fun r s₂ hr => wpAny_bind (wpAny_holding (wpAny_point (wpAny_pure hr)))) fun _ _ x => x)
  have H := h h3 F3 (fun p hp => N3 p (.tail _ hp))
  have marked (mk : Value) : wpAny (model prog w) A (callMarked mk f (first ++ ws) ex) Q E { s with heap := h3 } := by unfold callMarked; exact Calls.wpAny_keep H
  refine wpAny_bind (Lk.here ?_)
  have e1 : ([(true, (do let v ← eval e env; standAt pos; pure v : Sem Value))].any fun x => x.fst) = true := rfl
  simp only [e1, Bool.true_or]
  rcases hk' with rfl | rfl | rfl <;> dsimp only <;> first | exact tail (marked _) | exact tail (wpAny_operating H)
theorem methodCall_SS {env : Env} {o : Expr} {name : Str} {apos pos : Pos} {args : List Expr} {kws : List Keyword} {Q : Value → Shared → Prop}
    (h : wpAny (model prog w) A (eval o env) (fun ov s₁ => wpAny (model prog w) A (getAttr ov name true) (fun f s₂ => wpAny (model prog w) A (callWith pos f [] (backTo pos (starEach args env)) (backToKw pos (keywordEach kws env))) Q E s₂) E s₁) E s)
    (he : eval (.Call (.Attribute o name apos) args kws pos) env = (do
      let ov ← eval o env
      standAt apos.atName
      let (f, first) ← holding [ov] (do pure (← getAttr ov name true, []))
      callWith pos f first (backTo pos (starEach args env)) (backToKw pos (keywordEach kws env)))) :
    wpAny (model prog w) A (eval (.Call (.Attribute o name apos) args kws pos) env) Q E s := by
  rw [he]
  refine wpAny_bind (wpAny_mono h (fun ov s₁ h₁ => wpAny_bind (wpAny_standAt (wpAny_bind (wpAny_holding (wpAny_bind (wpAny_mono h₁ (fun f s₂ h₂ => wpAny_pure ?_) fun _ _ x => x)))))) fun _ _ x => x)
  exact h₂
end
end Mine
namespace Mine
open PySem PySem.Calls PySem.Spec
def emptyH : Heap := { objs := #[] }
/-- all objects but L, as a ledger -/
def allOf (h : Heap) (L : Addr) : List (Addr × Obj) := (List.range h.objs.size).filterMap fun b => if b = L then none else (h.get? b).map fun o => (b, o)
theorem mem_allOf {h : Heap} {L b : Addr} {o : Obj} : (b, o) ∈ allOf h L ↔ b ≠ L ∧ h.get? b = some o := by
  unfold allOf
  rw [List.mem_filterMap]
  constructor
  · rintro ⟨c, _, e⟩
    by_cases hc : c = L
    · rw [if_pos hc] at e; cases e
    · rw [if_neg hc] at e
      cases q : h.get? c with
      | none => rw [q] at e; cases e
      | some x => rw [q] at e; cases e; exact ⟨hc, q⟩
  · rintro ⟨hb, e⟩
    exact ⟨b, List.mem_range.mpr (Heap.lt_size e), by rw [if_neg hb, e]; rfl⟩
theorem emptyH_get {b : Addr} : emptyH.get? b = none := by
  cases q : emptyH.get? b with
  | none => rfl
  | some o => exact absurd (Heap.lt_size q) (Nat.not_lt_zero _)
theorem allOf_fr {h₀ h : Heap} {L : Addr} {m : Str → Option Value} (F : Fr h₀ L h m) : Fr emptyH L h m := ⟨F.ns, fun b o e => (by rw [emptyH_get] at e; cases e), Nat.zero_le _⟩
theorem allOf_news {h : Heap} {L : Addr} : News emptyH L h (allOf h L) := fun p hp => ⟨(mem_allOf.mp hp).2, (mem_allOf.mp hp).1, emptyH_get⟩
theorem allOf_keep {h h' : Heap} {L : Addr} {pre : List (Addr × Obj)} (N : News emptyH L h' (pre ++ allOf h L)) : ∀ b o, h.get? b = some o → b ≠ L → h'.get? b = some o := fun b o e hb =>
  (N (b, o) (List.mem_append_right _ (mem_allOf.mpr ⟨hb, e⟩))).1
theorem allOf_back {h₀ h h' : Heap} {L : Addr} {m : Str → Option Value} {pre : List (Addr × Obj)} (F : Fr h₀ L h m) (F' : Fr emptyH L h' m) (N : News emptyH L h' (pre ++ allOf h L)) : Fr h₀ L h' m :=
  ⟨F'.ns, fun b o e => allOf_keep N b o (F.keep b o e) (fun q => by have := kts_self F; rw [← q, e] at this; cases this), F.above⟩
theorem back_ledK {h₀ g h h' : Heap} {L L' : Addr} {m m' : Str → Option Value} {ms : List Addr} {news news' : List (Addr × Obj)} (k : Kept L (news.map (·.1)) h g) (N : ∀ p ∈ news, h.get? p.1 = some p.2)
    (F : Fr h₀ L h' m) (F' : Fr g L' h' m') (N' : News g L' h' news') (hs : ∀ p ∈ news, p.1 ∈ ms ∨ p ∈ news') : Back h₀ L m ms h h' :=
  ⟨F, fun b o e hL hb => by
    by_cases hm : b ∈ news.map (·.1)
    · obtain ⟨p, hp, rfl⟩ := List.mem_map.mp hm
      rw [N p hp] at e
      cases e
      rcases hs p hp with q | q
      · exact absurd q hb
      · exact (N' p q).1
    · exact F'.keep b o (k b o e hL hm)⟩
section
variable {prog : Program} {w : World} {A₀ A : Around} {s : Shared} {base h₀ : Heap} {outer : List Env} {L : Addr} {m : Str → Option Value} {env : Env} {news : List (Addr × Obj)}
  {R : Result → Shared → Prop} {name qual : Str} {params : Arguments} {body : List Stmt} {scope : Scope} {cl : List (Str × Addr)} {dV kV doc pm cdv ct oc : Value} {an od : Option Addr} {f : Addr} {args : Args} {binds : List (Str × Value)}
theorem frameK {E : Value → Shared → Prop} (B : Below A₀ base outer h₀) (F : Fr h₀ L s.heap m) (N : News h₀ L s.heap news) (hlim : h₀.NoLimit) (hA : A.frames = some (env :: outer)) (hf : env.frame = some L) (hke : env.scope.kind = .function)
    (hloc : ∀ y ∈ binds, scope.names.lookup y.1 = some .local)
    (h : ∀ g L' h₁, KeptA (news.map (·.1)) s.heap g → s.heap.objs.size ≤ L' → Fr h₀ L g m → Fr g L' h₁ (fun y => binds.reverse.lookup y) → News g L' h₁ news → Below A base (env :: outer) g → h₀.StaysIn g →
      wpAny (model prog w) (A.deeper (envX qual scope L' f cdv cl)) (execs body (envX qual scope L' f cdv cl))
        (fun fl s' => LeaveK h₀ L m g R (match fl with | .ret v => v | _ => .none) s')
        (fun e s' => wpAny (model prog w) (A.deeper (envX qual scope L' f cdv cl)) (leaving (envX qual scope L' f cdv cl) e) (fun _ s'' => R (.error e) s'') (fun e' s'' => R (.error e') s'') s')
        { s with heap := h₁, toks := s.toks + binds.length })
    (hcell : ∀ x ∈ scope.names, x.2 ≠ .cell) (hk : scope.kind = .function) :
    wpAny (model prog w) A.in1 (newFunctionEnv scope mainGlobals cl binds (qual ++ ".<locals>.") (some f) cdv none builtinsNs) (fun env' s₂ => s₂.heap.NoLimit ∧ codeAny (model prog w) A (.func body env') R s₂) E s := by
  obtain ⟨FG, BG, st, lv⟩ := groundX (R := R) B F N hA hf hke
  refine wpAny_newFunctionEnv hcell hloc (fun h₁ hns hsb => ⟨(hlim.keeps F.keep).fresh _ hsb, codeAny_func ?_⟩) hk
  have hk₁ : ∀ b o, s.heap.get? b = some o → h₁.get? b = some o := fun b o e => hsb.extBut b o (Nat.ne_of_lt (Heap.lt_size e)) (Heap.get?_push_of_some _ e)
  show wpAny (model prog w) (A.deeper (envX qual scope s.heap.objs.size f cdv cl)) (execs body (envX qual scope s.heap.objs.size f cdv cl)) _ _ _
  exact wpAny_mono (h _ s.heap.objs.size h₁ (fun b o e hb => hideAll_get _ e hb) (Nat.le_refl _) FG ⟨hns, fun b o e => hk₁ b o (of_hideAll _ e), Nat.le_of_eq (hideAll_size _ _)⟩
    (fun p hp => ⟨hk₁ _ _ (N p hp).1, Nat.ne_of_lt (Heap.lt_size (N p hp).1), hideAll_none _ (List.mem_map_of_mem hp)⟩) BG st) (fun fl s' hl => lv _ _ hl) fun _ _ y => y
end
section
variable {prog : Program} {w : World} {A A₀ : Around} {s : Shared} {K : Frag} {L : Addr} {h₀ base : Heap} {m mg mb : Str → Option Value} {news : List (Addr × Obj)} {p : Program} {loose : List Str} {mean : ExcName → Option Value}
theorem enterBoth {env : Env} {outer : List Env} {R : Result → Shared → Prop} {name qual : Str} {params : Arguments} {body : List Stmt} {scope : Scope} {dV kV doc pm cdv ct oc : Value} {an od : Option Addr} {osl : Array (Option Value)} {f : Addr} {args : Args} {vs : List Value} {nm nr : Str} {ex front : List (Str × Value)} {g₁ : Addr → Sem (List (Str × Value))} {g₂ : Addr → Addr → Sem (List (Str × Value))}
    (B : Below A₀ base outer h₀) (F : Fr h₀ L s.heap m) (X₀ : K.In h₀) (N : News h₀ L s.heap news) (T : Top p loose mean mg mb h₀) (hA : A.frames = some (env :: outer)) (hf : env.frame = some L) (hke : env.scope.kind = .function)
    (ho : K.lookup f = some ⟨oc, od, .func (fnX name qual params body scope [] dV kV doc pm an cdv ct), osl⟩) (hcd : codeIn K cdv qual = true) (hroom : A.depth < recursionLimit)
    (hv : args.pos.drop (params.posonlyargs.length + params.args.length) = vs) (hx : args.kw.filter (fun x => !ownKw params x.1) = ex) (hnr : params.vararg.map (·.arg) = some nr) (hnm : params.kwarg.map (·.arg) = some nm) (hn : kwDistinct ex = true)
    (_hfr : peek K ⟨prog, w.params⟩ (bindArgs (fnCut (fnX name qual params body scope [] dV kV doc pm an cdv ct)) (argsCut params args)) = some front)
    (hp : peekA K ⟨prog, w.params⟩ (bindArgs (fnX name qual params body scope [] dV kV doc pm an cdv ct) args) = some (({ cls := .type "tuple", data := .seq vs.toArray } : Obj), g₁))
    (hp₂ : ∀ D, peekA K ⟨prog, w.params⟩ (g₁ D) = some (dictOf [] 0, g₂ D))
    (hk₂ : ∀ C D, g₂ C D = (forIn ex PUnit.unit (fun x _ => (nsSet D x.1 x.2 >>= fun _ => pure (ForInStep.yield PUnit.unit))) >>= fun _ => pure (front ++ [(nr, Value.ref C)] ++ [(nm, Value.ref D)])))
    (hloc : ∀ C D, ∀ y ∈ front ++ [(nr, Value.ref C)] ++ [(nm, Value.ref D)], scope.names.lookup y.1 = some .local)
    (h : ∀ C D t n g L' h₁ tk, Kept L (news.map (·.1)) s.heap g → s.heap.objs.size ≤ C → C < D → D < L' → (D == sysModules) = false → (dictOf (kwEs w.params t ex) n).IsDictOf (strKind prog w) ex → Fr h₀ L g m → Fr g L' h₁ (fun y => (front ++ [(nr, Value.ref C)] ++ [(nm, Value.ref D)]).reverse.lookup y) →
      News g L' h₁ ((D, dictOf (kwEs w.params t ex) n) :: (C, ({ cls := .type "tuple", data := .seq vs.toArray } : Obj)) :: news) → Below A base (env :: outer) g → K.In g → Top p loose mean mg mb g →
      wpAny (model prog w) (A.deeper (envX qual scope L' f cdv [])) (execs body (envX qual scope L' f cdv []))
        (fun fl s' => LeaveK h₀ L m g R (match fl with | .ret v => v | _ => .none) s')
        (fun e s' => wpAny (model prog w) (A.deeper (envX qual scope L' f cdv [])) (leaving (envX qual scope L' f cdv []) e) (fun _ s'' => R (.error e) s'') (fun e' s'' => R (.error e') s'') s')
        { s with heap := h₁, toks := tk })
    (hcell : ∀ x ∈ scope.names, x.2 ≠ .cell) (hco : scope.isCoroutine = false) (hgen : scope.isGenerator = false) (hk : scope.kind = .function) : codeAny (model prog w) A (.call (.ref f) args) R s := by
  have _ := hv
  have _ := hx
  have _ := hnr
  have _ := hnm
  have hn' := kwDistinct_nodup hn
  have hnews : ∀ q ∈ news, q ∈ allOf s.heap L := fun q hq => mem_allOf.mpr ⟨(N q hq).2.1, (N q hq).1⟩
  refine codeAny_call_function (fd := fnX name qual params body scope [] dV kV doc pm an cdv ct) (body := body) hroom ((X₀.keeps F.keep) _ _ ho) rfl hco hgen rfl (codeRec_of (X₀.keeps F.keep) hcd) ?_
  refine wp_of_peekA (o := ({ cls := .type "tuple", data := .seq vs.toArray } : Obj)) (allOf_fr F) allOf_news (X₀.keeps F.keep) rfl _ g₁ hp fun h' Fe Ne l => ?_
  have F' := allOf_back (pre := [_]) F Fe Ne
  refine wp_of_peekA (s := { s with heap := h' }) (o := dictOf [] 0) Fe Ne (X₀.keeps F'.keep) rfl _ (g₂ s.heap.objs.size) (hp₂ _) fun h'' Fe2 Ne2 l' => ?_
  rw [hk₂]
  refine wpAny_bind (kp_fill ex { s with heap := h'' } [] 0 Fe2 Ne2 (fun p hp => Nat.ne_of_lt (l' p hp)) (fun _ he => nomatch he) (fun _ he => nomatch he) hn' fun h₃ Fe3 Ne3 => wpAny_pure ?_)
  have F₃ := allOf_back (pre := [_, _]) F Fe3 Ne3
  have g0 : ∀ b, s.heap.objs.size ≤ b → h₀.get? b = none := fun b hb => by
    cases q : h₀.get? b with
    | none => rfl
    | some o => exact absurd (Heap.lt_size (F.keep _ _ q)) (Nat.not_lt.mpr hb)
  have lCD : s.heap.objs.size < h'.objs.size := l' (s.heap.objs.size, _) (.head _)
  have N₃ : News h₀ L h₃ ((h'.objs.size, dictOf ([] ++ kwEs w.params s.toks ex) (0 + ex.length)) :: (s.heap.objs.size, ({ cls := .type "tuple", data := .seq vs.toArray } : Obj)) :: news) :=
    List.forall_mem_cons.mpr ⟨⟨(Ne3 _ (.head _)).1, (Ne3 _ (.head _)).2.1, g0 _ (Nat.le_of_lt lCD)⟩, List.forall_mem_cons.mpr ⟨⟨(Ne3 _ (.tail _ (.head _))).1, (Ne3 _ (.tail _ (.head _))).2.1, g0 _ (Nat.le_refl _)⟩,
      fun q hq => ⟨(Ne3 q (.tail _ (.tail _ (hnews q hq)))).1, (N q hq).2⟩⟩⟩
  have lD : h'.objs.size < h₃.objs.size := Heap.lt_size (N₃ _ (.head _)).1
  exact frameK (cl := []) (s := { s with heap := h₃, toks := s.toks + ex.length }) B F₃ N₃ T.nolimit hA hf hke (hloc _ _)
    (fun g L' h₁ kg lL FG FL NG BG st => h _ _ _ _ g L' h₁ _ (fun b o e hL hb => kg b o (allOf_keep (pre := [_, _]) Ne3 b o e hL) (fun hm => by
        have hlt : b < s.heap.objs.size := Heap.lt_size e
        rcases List.mem_cons.mp hm with z | hm
        · exact absurd (Nat.lt_of_le_of_lt (Nat.le_of_eq (Eq.symm z)) hlt) (Nat.not_lt.mpr (Nat.le_of_lt lCD))
        rcases List.mem_cons.mp hm with z | hm
        · exact absurd (Nat.lt_of_le_of_lt (Nat.le_of_eq (Eq.symm z)) hlt) (Nat.lt_irrefl _)
        · exact hb hm)) (Nat.le_refl _) lCD (Nat.lt_of_lt_of_le lD lL) (F'.notModules (modules_low T.nolimit)) (kp_isDict s.toks (0 + ex.length) hn') FG FL NG BG (X₀.keeps st) (T.keeps st)) hcell hk
end
end Mine
namespace Mine
open PySem PySem.Calls PySem.Spec
section
variable {prog : Program} {w : World} {A : Around} {E : Value → Shared → Prop} {s : Shared}
theorem typeCall0 : checkTypeCall "list" ⟨[], []⟩ = pure () := by kernel_rfl
theorem newCall0 : checkBuiltinCall "list.__new__" ⟨[.type "list"], []⟩ = pure () := by kernel_rfl
theorem code_list_new0 {Q₁ : Value → Shared → Prop}
    (h : Q₁ (.ref s.heap.objs.size) { s with heap := s.heap.push { cls := .type "list", data := .seq #[] } }) :
    codeAny (model prog w) A (.call (.builtin "list.__new__") ⟨[.type "list"], []⟩) (wants Q₁ E) s := by
  refine codeAny_of_tree ?_
  show wpAny _ A.in1 (do checkBuiltinCall "list.__new__" ⟨[.type "list"], []⟩; again (.builtin "list.__new__" ⟨[.type "list"], []⟩)) _ _ s
  refine wpAny_bind (wpAny_of_eq newCall0 (wpAny_pure ⟨plainId_quiet F.plain_list_new _, codeAny_builtin_stack F.entry_list_new rfl fun p st => ?_⟩))
  rw [Around.under_plainId F.plain_list_new _]
  have hsub := sub_list_self
  have hown := owner_list_new
  obtain ⟨hp, g, d, tk, os⟩ := s
  simp only [hown]
  wp_walk
  exact h
theorem call_list0 {Q : Value → Shared → Prop}
    (hQ : ∀ h' c', (∀ b o', s.heap.get? b = some o' → h'.get? b = some o') → h'.get? s.heap.objs.size = some { cls := .type "list", dict := none, data := .seq #[] c', slots := #[] } → Q (.ref s.heap.objs.size) { s with heap := h' }) :
    wpAny (model prog w) A (call (.type "list") []) Q E s := by
  refine callType_codes (Q₁ := fun obj s₁ => obj = .ref s.heap.objs.size ∧ s₁ = { s with heap := s.heap.push { cls := .type "list", data := .seq #[] } }) F.called_list typeCall0 F.entry_list_init
    (code_list_new0 ⟨rfl, rfl⟩) fun obj s₁ h₁ => ?_
  obtain ⟨rfl, rfl⟩ := h₁
  have hS : (s.heap.push { cls := .type "list", data := .seq #[] }).get? s.heap.objs.size = some { cls := .type "list", data := .seq #[] } := Heap.get?_push_size _ rfl
  refine ⟨⟨_, hS, rfl⟩, F.args_list_init_1 _, ?_⟩
  show wpAny _ A.in1.in1 (do let old ← Builtin.List.listItems (.ref s.heap.objs.size); Builtin.List.listUpdate (.ref s.heap.objs.size) (fun _ => #[]); letGo old.toList.reverse; ret .none) _ _ _
  refine wpAny_bind ?_
  unfold Builtin.List.listItems
  refine wpAny_bind (wpAny_seqItems hS rfl (wpAny_pure ?_))
  show wpAny _ A.in1.in1 (updateSeq s.heap.objs.size (fun _ => #[]) >>= fun _ => letGo (#[] : Array Value).toList.reverse >>= fun _ => ret .none) _ _ _
  refine wpAny_bind (wpAny_updateSeq hS rfl ?_)
  have hS₂ := Heap.get?_update_self (Obj.mapSeq (fun _ => (#[] : Array Value))) hS rfl
  refine wpAny_bind (wpAny_letGo ?_)
  refine wpAny_pure ⟨rfl, hQ _ _ (fun b o' e => ?_) (by simpa [Obj.mapSeq] using hS₂)⟩
  have hb : b ≠ s.heap.objs.size := fun e' => Nat.lt_irrefl _ (e' ▸ Heap.lt_size e)
  exact (Heap.get?_update_other _ _ (Ne.symm hb)).trans (Heap.get?_push_of_some _ e)
theorem list0_K {h₀ : Heap} {L : Addr} {m : Str → Option Value} {news : List (Addr × Obj)} {Q : Value → Shared → Prop} (F : Fr h₀ L s.heap m) (N : News h₀ L s.heap news)
    (h : ∀ D c h', Fr h₀ L h' m → News h₀ L h' ((D, listOf #[] c) :: news) → (∀ q ∈ news, q.1 < D) → Q (.ref D) { s with heap := h' }) : wpAny (model prog w) A (call (.type "list") []) Q E s :=
  call_list0 fun h' c' hk hD => h _ c' h' (F.keeps hk) (news_pushed F N hk hD rfl) fun q hq => Heap.lt_size (N q hq).1
end
end Mine
namespace Mine
open PySem PySem.Calls PySem.Spec
theorem rs_E1 : True := by w_top off; trivial
local macro_rules | `(tactic| walk_at "zz") => `(tactic| fail)
local macro_rules | `(tactic| ktr_enter) => `(tactic| (
  refine' enterK ?k1 ?k2 ?k3 ?k4 ?k5 ?kA ?kF ?kK ?k6 ?k7 ?k8 ?k9 ?kB ?_ ?c5 ?c2 ?c3 ?c4;
  (case kA => exact rfl); (case kF => exact rfl); (case kK => first | assumption | exact rfl); (case k1 => assumption); (case k2 => assumption); (case k3 => assumption); (case k4 => assumption); (case k5 => assumption);
  (case k6 => k_is); (case k7 => k_is); (case k8 => first | (simp only [recursionLimit]; omega) | ktr_room); (case k9 => first | exact BindsTo.of_eq rfl | exact binds_K (by k_in) rfl (by k_is) rfl rfl rfl); (case c5 => decide); (case kB => exact locs rfl); (case c2 => exact rfl); (case c3 => exact rfl); (case c4 => exact rfl)))
local macro_rules | `(tactic| walk_at "subscriptTail") => `(tactic| ((with_reducible show wpAny _ _ (subscriptTail _ _ (Value.ref 58) (Value.int _ _)) _ _ _); k_dflt (refine' item58 ?F ?X ?h ?_; (case F => k_asm); (case X => k_asm); (case h => assumption)); intro t'))
local macro_rules | `(tactic| walk_at "subscriptTail") => `(tactic| ((with_reducible show wpAny _ _ (subscriptTail _ _ (Value.ref 57) (Value.int _ _)) _ _ _); k_dflt (refine' item57 ?F ?X ?h ?_; (case F => k_asm); (case X => k_asm); (case h => assumption)); intro t'))
local macro_rules | `(tactic| walk_at "compareOp NotIn int ref") => `(tactic| ((with_reducible show wpAny _ _ (compareOp CmpOp.NotIn (Value.int _ _) (Value.ref 58)) _ _ _); k_dflt (refine' notin58 ?F ?X ?_; (case F => k_asm); (case X => k_asm))))
local macro_rules | `(tactic| walk_at "compareOp NotIn int ref") => `(tactic| ((with_reducible show wpAny _ _ (compareOp CmpOp.NotIn (Value.int _ _) (Value.ref 57)) _ _ _); k_dflt (refine' notin57 ?F ?X ?_; (case F => k_asm); (case X => k_asm))))
local macro_rules | `(tactic| walk_at "binaryOp LShift int int") => `(tactic| (refine lshift_int_small (by decide) (by decide) (by omega) ?_))
local macro_rules | `(tactic| walk_at "call builtin:_struct.pack") => `(tactic| ((with_reducible show wpAny _ _ (call (Value.builtin _) [Value.str _ _, Value.int _ _]) _ _ _); k_dflt (first | (refine' pack_B ?h0 ?h1 ?_; (case h0 => omega); (case h1 => omega)) | (refine' pack_q ?h0 ?h1 ?_; (case h0 => omega); (case h1 => omega))); intro t'))
local macro_rules | `(tactic| ktr_rel) => `(tactic| exact back_led (by assumption) (by assumption) (by assumption) (by assumption) (by assumption) (fun p hp => .inr hp))
local macro_rules | `(tactic| ktr_unf) => `(tactic| first | omega | ((try dsimp only [Around.deeper, Around.in1, Around.mark]); (try simp only [dU, uU]); (try dsimp only [ktrTop, Around.deeper, Around.in1, Around.mark]); omega))
local macro_rules | `(tactic| k_enter) => `(tactic| (ktr_enter; intro g' L' h' kg' lL' FG' F' N' B' X' T'; (try dsimp only); (try k_fold)))
local macro_rules | `(tactic| walk_at "call ref") => `(tactic| (k_here; k_dflt (refine' call_clsK ?k1 ?k2 ?k3 ?k4 ?k5 ?k6 ?_; (case k1 => k_asm); (case k2 => k_asm); (case k3 => k_asm); (case k4 => k_is); (case k5 => k_is); (case k6 => k_is); k_whole; intro x' d' h' x1 l1 l2 F' N'; (try ((have l9 := news_lt (by assumption) l1); (k_lt l9))); (try k_lt2 l1); (try k_lt2 l2); (try k_sweep); k_enter)))

abbrev didEs (w : World) (t0 t1 : Tok) (le : Addr) (dt : Value) : List DictEntry := [ent w (Str.ofString "entries") t0 (.ref le), ent w (Str.ofString "definition_type") t1 dt]
local macro_rules | `(tactic| ktr_enter) => `(tactic| (
  kp_kind "both";
  refine' enterBoth ?k1 ?k2 ?k3 ?k4 ?k5 ?kA ?kF ?kK ?k6 ?k7 ?k8 ?kV ?kX ?kQ ?kM ?kN ?kR ?kP ?kS ?kT ?kB ?_ ?c5 ?c2 ?c3 ?c4;
  (case kA => exact rfl); (case kF => exact rfl); (case kK => first | assumption | exact rfl); (case k1 => assumption); (case k2 => assumption); (case k3 => assumption); (case k4 => assumption); (case k5 => assumption);
  (case k6 => k_is); (case k7 => k_is); (case k8 => first | (simp only [recursionLimit]; omega) | ktr_room); (case kV => kp_lit); (case kX => kp_lit); (case kQ => exact rfl); (case kM => exact rfl); (case kN => exact rfl); (case kR => exact rfl); (case kP => exact rfl); (case kS => exact fun _ => rfl); (case kT => exact fun _ _ => rfl); (case kB => exact fun _ _ => locs rfl); (case c5 => decide); (case c2 => exact rfl); (case c3 => exact rfl); (case c4 => exact rfl)))
local macro_rules | `(tactic| walk_at "compareOp NotEq ref ref") => `(tactic| ((with_reducible show wpAny _ _ (compareOp CmpOp.NotEq (Value.ref 206) (Value.ref 206)) _ _ _); k_dflt (refine' ne_cls ?T ?u ?_; (case T => exact typeIs_K (by k_in) (by k_is)); (case u => ((show _ < 9900); ktr_unf)))))
local macro_rules | `(tactic| walk_at "compareOp Eq ref ref") => `(tactic| ((with_reducible show wpAny _ _ (compareOp CmpOp.Eq (Value.ref 206) (Value.ref 206)) _ _ _); k_dflt (refine' eq_cls ?T ?u ?_; (case T => exact typeIs_K (by k_in) (by k_is)); (case u => ((show _ < 9900); ktr_unf)))))
local macro_rules | `(tactic| walk_at "compareOp Eq none ref") => `(tactic| ((with_reducible show wpAny _ _ (compareOp CmpOp.Eq Value.none (Value.ref 206)) _ _ _); k_dflt (refine' eq_none_cls ?T ?u ?_; (case T => exact typeIs_K (by k_in) (by k_is)); (case u => ((show _ < 9900); ktr_unf)))))
local macro_rules | `(tactic| walk_at "getMethod ref") => `(tactic| ((with_reducible show wpAny _ _ (getMethod (Value.ref _) (Str.ofString "ByMemloc") _) _ _ _); k_dflt (refine' method_usual ?X ?I ?h1 ?h2 ?h3 ?h4 ?_; (case X => k_in); (case I => k_inst); (case h1 => k_is); (case h2 => k_is); (case h3 => k_is); (case h4 => kernel_rfl))))
local macro_rules | `(tactic| walk_at "call builtin:isinstance") => `(tactic| ((with_reducible show wpAny _ _ (call _ [Value.ref _, Value.ref 157]) _ _ _); k_dflt (refine' isi_call ?k1 ?k2 ?k3 ?k4 ?_; (case k1 => k_in); (case k2 => k_types); (case k3 => k_is); (case k4 => intro e; cases e); k_whole)))

abbrev vD (b : Bool) : Value := match b with
  | false => .none
  | true => .ref 206
theorem handed_vD {b : Bool} : handedIn (vD b) = true := by cases b <;> rfl
section
variable {prog : Program} {w : World} {A : Around} {E : Value → Shared → Prop} {s : Shared} {Q : Value → Shared → Prop} {b : Bool}
theorem is_vD (h : Q (.bool (!b)) s) : wpAny (model prog w) A (compareOp .Is (vD b) .none) Q E s := by
  cases b with
  | false => exact wpAny_is_self rfl h
  | true => exact wpAny_is_other rfl (fun e => nomatch e) h
theorem ne_vD (hb : b = true) (hT : s.TypeIs (.ref 206) "type") (hu : A.units + 1 < cLine) (h : Q (.bool false) s) : wpAny (model prog w) A (compareOp .NotEq (.ref 206) (vD b)) Q E s := by
  subst hb
  exact ne_cls hT hu h
end
theorem pick5 {h₀ h : Heap} {L : Addr} {a b c d e f g : Addr × Obj} {r : List (Addr × Obj)} (N : News h₀ L h (a :: b :: c :: d :: e :: f :: g :: r)) : News h₀ L h [a, b, e, f, g] :=
  List.forall_mem_cons.mpr ⟨N _ (.head _), List.forall_mem_cons.mpr ⟨N _ (.tail _ (.head _)), List.forall_mem_cons.mpr ⟨N e (by simp), List.forall_mem_cons.mpr ⟨N f (by simp), List.forall_mem_cons.mpr ⟨N g (by simp), List.forall_mem_nil _⟩⟩⟩⟩⟩
local macro_rules | `(tactic| k_handed) => `(tactic| exact handed_vD)
local macro_rules | `(tactic| walk_at "compareOp Is") => `(tactic| ((with_reducible show wpAny _ _ (compareOp CmpOp.Is (vD _) Value.none) _ _ _); refine is_vD ?_))
local macro_rules | `(tactic| walk_at "compareOp NotEq ref") => `(tactic| ((with_reducible show wpAny _ _ (compareOp CmpOp.NotEq (Value.ref 206) (vD _)) _ _ _); k_dflt (refine' ne_vD ?b ?T ?u ?_; (case b => assumption); (case T => exact typeIs_K (by k_in) (by k_is)); (case u => ((show _ < 9900); ktr_unf)))))
section
variable {w : World} {A₀ : Around} {s : Shared} {base h₀ : Heap} {outer : List Env} {L : Addr} {m : Str → Option Value} {mean : ExcName → Option Value} {mg mb : Str → Option Value}
  {Q E : Value → Shared → Prop} {dp un : Nat} {gd : Option (List Code)} {cn : Str} {cs : Scope} {a : Addr} {ccd : Value} {cl : List (Str × Addr)}

theorem add_posC {x dx le loc dloc : Addr} {its : Array Value} {n : Nat} {b : Bool} {odl : Obj} {t0 t1 : Tok} (B : Below A₀ base outer h₀) (F : Fr h₀ L s.heap m) (X : (hd.heap_39 w.params).In h₀) (T : Top hd.view_39 LO mean mg mb h₀)
   (hke : cs.kind = .function) (hdp : dp + 30 < 1000) (hun : un + 300 < 9900) (n1 : @Ne Nat dx x) (n2 : @Ne Nat le x) (n3 : @Ne Nat dx le) (n4 : @Ne Nat loc dx) (n5 : @Ne Nat loc le) (n6 : @Ne Nat loc x) (n7 : @Ne Nat dloc dx) (n8 : @Ne Nat dloc le)
   (N : News h₀ L s.heap [(x, instObj 255 dx), (dx, dictOf (didEs w t0 t1 le (vD b)) 2), (le, listOf its n), (loc, instObj 157 dloc), (dloc, odl)]) (hsz : its.size < 1000)
   (hQ : ∀ en den k0 k1 k2 h' tk', Back h₀ L m [dx, le] s.heap h' → s.heap.objs.size ≤ den → den < en → News h₀ L h' [(en, instObj 206 den), (den, dictOf [ent w (Str.ofString "memloc") k0 (.ref loc)] 1), (x, instObj 255 dx), (dx, dictOf (didEs w k1 k2 le (.ref 206)) 2), (le, listOf (its.push (.ref en)) (n + 1))] → Q .none { s with heap := h', toks := tk' }) :
   codeAny (model PySem.Challenge.rw_eh5030_01.row.prog w) (ktrTop dp un gd cn cs L a ccd cl outer) (.call (.ref 224) ⟨[.ref x, .ref loc], []⟩) (fun r s' => match r with | .ok (.ret v) => Q v s' | .ok _ => False | .error e => E e s') s := by
  k_dflt ktr_enter
  have hN := gets N
  have l0 := fun (C : Addr) (hC : @LE.le Nat _ s.heap.objs.size C) => news_lt N hC
  intro C D tk1 nn1 g L' h₁ tk2 kg lC lCD lDL lo hdd FG F N B X T
  have lx := l0 C lC
  k_lt lx
  k_lt2 lCD
  (try dsimp only); (try k_fold)
  k_steps
  all_goals
    (try ((rename b = true => hb9); subst hb9))
    refine' hQ _ _ _ _ _ _ _ ?bk ?o1 ?o2 ?nn
    case nn => exact pick5 (by assumption)
    case o1 => omega
    case o2 => assumption
    case bk => exact back_ledK kg hN (by assumption) (by assumption) (by assumption) (List.forall_mem_cons.mpr ⟨.inr (by k_mem), List.forall_mem_cons.mpr ⟨.inl (.head _), List.forall_mem_cons.mpr ⟨.inl (.tail _ (.head _)), List.forall_mem_cons.mpr ⟨.inr (by k_mem), List.forall_mem_cons.mpr ⟨.inr (by k_mem), List.forall_mem_nil _⟩⟩⟩⟩⟩)
theorem add_pos {x dx le loc dloc : Addr} {its : Array Value} {n : Nat} {b : Bool} {odl : Obj} {t0 t1 : Tok} (B : Below A₀ base outer h₀) (F : Fr h₀ L s.heap m) (X : (hd.heap_39 w.params).In h₀) (T : Top hd.view_39 LO mean mg mb h₀)
   (hke : cs.kind = .function) (hdp : dp + 30 < 1000) (hun : un + 300 < 9900) (n1 : @Ne Nat dx x) (n2 : @Ne Nat le x) (n3 : @Ne Nat dx le) (n4 : @Ne Nat loc dx) (n5 : @Ne Nat loc le) (n6 : @Ne Nat loc x) (n7 : @Ne Nat dloc dx) (n8 : @Ne Nat dloc le)
   (N : News h₀ L s.heap [(x, instObj 255 dx), (dx, dictOf (didEs w t0 t1 le (vD b)) 2), (le, listOf its n), (loc, instObj 157 dloc), (dloc, odl)]) (hsz : its.size < 1000)
   (hQ : ∀ en den k0 k1 k2 h' tk', Back h₀ L m [dx, le] s.heap h' → s.heap.objs.size ≤ den → den < en → News h₀ L h' [(en, instObj 206 den), (den, dictOf [ent w (Str.ofString "memloc") k0 (.ref loc)] 1), (x, instObj 255 dx), (dx, dictOf (didEs w k1 k2 le (.ref 206)) 2), (le, listOf (its.push (.ref en)) (n + 1))] → Q .none { s with heap := h', toks := tk' }) :
   wpAny (model PySem.Challenge.rw_eh5030_01.row.prog w) (ktrTop dp un gd cn cs L a ccd cl outer) (call (.ref 224) [.ref x, .ref loc] []) Q E s :=
  wpAny_call (add_posC B F X T hke hdp hun n1 n2 n3 n4 n5 n6 n7 n8 N hsz hQ)
theorem add_kwC {x dx le loc dloc : Addr} {its : Array Value} {n : Nat} {b : Bool} {odl : Obj} {t0 t1 : Tok} (B : Below A₀ base outer h₀) (F : Fr h₀ L s.heap m) (X : (hd.heap_39 w.params).In h₀) (T : Top hd.view_39 LO mean mg mb h₀)
   (hke : cs.kind = .function) (hdp : dp + 30 < 1000) (hun : un + 300 < 9900) (n1 : @Ne Nat dx x) (n2 : @Ne Nat le x) (n3 : @Ne Nat dx le) (n4 : @Ne Nat loc dx) (n5 : @Ne Nat loc le) (n6 : @Ne Nat loc x) (n7 : @Ne Nat dloc dx) (n8 : @Ne Nat dloc le)
   (N : News h₀ L s.heap [(x, instObj 255 dx), (dx, dictOf (didEs w t0 t1 le (vD b)) 2), (le, listOf its n), (loc, instObj 157 dloc), (dloc, odl)]) (hsz : its.size < 1000)
   (hQ : ∀ en den k0 k1 k2 h' tk', Back h₀ L m [dx, le] s.heap h' → s.heap.objs.size ≤ den → den < en → News h₀ L h' [(en, instObj 206 den), (den, dictOf [ent w (Str.ofString "memloc") k0 (.ref loc)] 1), (x, instObj 255 dx), (dx, dictOf (didEs w k1 k2 le (.ref 206)) 2), (le, listOf (its.push (.ref en)) (n + 1))] → Q .none { s with heap := h', toks := tk' }) :
   codeAny (model PySem.Challenge.rw_eh5030_01.row.prog w) (ktrTop dp un gd cn cs L a ccd cl outer) (.call (.ref 224) ⟨[.ref x], [(Str.ofString "memloc", .ref loc)]⟩) (fun r s' => match r with | .ok (.ret v) => Q v s' | .ok _ => False | .error e => E e s') s := by
  k_dflt ktr_enter
  have hN := gets N
  have l0 := fun (C : Addr) (hC : @LE.le Nat _ s.heap.objs.size C) => news_lt N hC
  intro C D tk1 nn1 g L' h₁ tk2 kg lC lCD lDL lo hdd FG F N B X T
  have lx := l0 C lC
  k_lt lx
  k_lt2 lCD
  (try dsimp only); (try k_fold)
  k_steps
  all_goals
    (try ((rename b = true => hb9); subst hb9))
    refine' hQ _ _ _ _ _ _ _ ?bk ?o1 ?o2 ?nn
    case nn => exact pick5 (by assumption)
    case o1 => omega
    case o2 => assumption
    case bk => exact back_ledK kg hN (by assumption) (by assumption) (by assumption) (List.forall_mem_cons.mpr ⟨.inr (by k_mem), List.forall_mem_cons.mpr ⟨.inl (.head _), List.forall_mem_cons.mpr ⟨.inl (.tail _ (.head _)), List.forall_mem_cons.mpr ⟨.inr (by k_mem), List.forall_mem_cons.mpr ⟨.inr (by k_mem), List.forall_mem_nil _⟩⟩⟩⟩⟩)
theorem add_kw {x dx le loc dloc : Addr} {its : Array Value} {n : Nat} {b : Bool} {odl : Obj} {t0 t1 : Tok} (B : Below A₀ base outer h₀) (F : Fr h₀ L s.heap m) (X : (hd.heap_39 w.params).In h₀) (T : Top hd.view_39 LO mean mg mb h₀)
   (hke : cs.kind = .function) (hdp : dp + 30 < 1000) (hun : un + 300 < 9900) (n1 : @Ne Nat dx x) (n2 : @Ne Nat le x) (n3 : @Ne Nat dx le) (n4 : @Ne Nat loc dx) (n5 : @Ne Nat loc le) (n6 : @Ne Nat loc x) (n7 : @Ne Nat dloc dx) (n8 : @Ne Nat dloc le)
   (N : News h₀ L s.heap [(x, instObj 255 dx), (dx, dictOf (didEs w t0 t1 le (vD b)) 2), (le, listOf its n), (loc, instObj 157 dloc), (dloc, odl)]) (hsz : its.size < 1000)
   (hQ : ∀ en den k0 k1 k2 h' tk', Back h₀ L m [dx, le] s.heap h' → s.heap.objs.size ≤ den → den < en → News h₀ L h' [(en, instObj 206 den), (den, dictOf [ent w (Str.ofString "memloc") k0 (.ref loc)] 1), (x, instObj 255 dx), (dx, dictOf (didEs w k1 k2 le (.ref 206)) 2), (le, listOf (its.push (.ref en)) (n + 1))] → Q .none { s with heap := h', toks := tk' }) :
   wpAny (model PySem.Challenge.rw_eh5030_01.row.prog w) (ktrTop dp un gd cn cs L a ccd cl outer) (call (.ref 224) [.ref x] [(Str.ofString "memloc", .ref loc)]) Q E s :=
  wpAny_call (add_kwC B F X T hke hdp hun n1 n2 n3 n4 n5 n6 n7 n8 N hsz hQ)
end
end Mine
namespace Mine
open PySem PySem.Calls PySem.Spec
theorem rs_E3 : True := by w_top off; trivial
local macro_rules | `(tactic| walk_at "zz") => `(tactic| fail)
local macro_rules | `(tactic| walk_at "zz") => `(tactic| fail)
local macro_rules | `(tactic| walk_at "zz") => `(tactic| fail)
local macro_rules | `(tactic| walk_at "zz") => `(tactic| fail)
local macro_rules | `(tactic| ktr_enter) => `(tactic| (
  refine' enterK ?k1 ?k2 ?k3 ?k4 ?k5 ?kA ?kF ?kK ?k6 ?k7 ?k8 ?k9 ?kB ?_ ?c5 ?c2 ?c3 ?c4;
  (case kA => exact rfl); (case kF => exact rfl); (case kK => first | assumption | exact rfl); (case k1 => assumption); (case k2 => assumption); (case k3 => assumption); (case k4 => assumption); (case k5 => assumption);
  (case k6 => k_is); (case k7 => k_is); (case k8 => first | (simp only [recursionLimit]; omega) | ktr_room); (case k9 => first | exact BindsTo.of_eq rfl | exact binds_K (by k_in) rfl (by k_is) rfl rfl rfl); (case c5 => decide); (case kB => exact locs rfl); (case c2 => exact rfl); (case c3 => exact rfl); (case c4 => exact rfl)))
local macro_rules | `(tactic| walk_at "subscriptTail") => `(tactic| ((with_reducible show wpAny _ _ (subscriptTail _ _ (Value.ref 58) (Value.int _ _)) _ _ _); k_dflt (refine' item58 ?F ?X ?h ?_; (case F => k_asm); (case X => k_asm); (case h => assumption)); intro t'))
local macro_rules | `(tactic| walk_at "subscriptTail") => `(tactic| ((with_reducible show wpAny _ _ (subscriptTail _ _ (Value.ref 57) (Value.int _ _)) _ _ _); k_dflt (refine' item57 ?F ?X ?h ?_; (case F => k_asm); (case X => k_asm); (case h => assumption)); intro t'))
local macro_rules | `(tactic| walk_at "compareOp NotIn int ref") => `(tactic| ((with_reducible show wpAny _ _ (compareOp CmpOp.NotIn (Value.int _ _) (Value.ref 58)) _ _ _); k_dflt (refine' notin58 ?F ?X ?_; (case F => k_asm); (case X => k_asm))))
local macro_rules | `(tactic| walk_at "compareOp NotIn int ref") => `(tactic| ((with_reducible show wpAny _ _ (compareOp CmpOp.NotIn (Value.int _ _) (Value.ref 57)) _ _ _); k_dflt (refine' notin57 ?F ?X ?_; (case F => k_asm); (case X => k_asm))))
local macro_rules | `(tactic| walk_at "binaryOp LShift int int") => `(tactic| (refine lshift_int_small (by decide) (by decide) (by omega) ?_))
local macro_rules | `(tactic| walk_at "call builtin:_struct.pack") => `(tactic| ((with_reducible show wpAny _ _ (call (Value.builtin _) [Value.str _ _, Value.int _ _]) _ _ _); k_dflt (first | (refine' pack_B ?h0 ?h1 ?_; (case h0 => omega); (case h1 => omega)) | (refine' pack_q ?h0 ?h1 ?_; (case h0 => omega); (case h1 => omega))); intro t'))
local macro_rules | `(tactic| ktr_rel) => `(tactic| exact back_led (by assumption) (by assumption) (by assumption) (by assumption) (by assumption) (fun p hp => .inr hp))
local macro_rules | `(tactic| ktr_unf) => `(tactic| first | omega | ((try dsimp only [Around.deeper, Around.in1, Around.mark]); (try simp only [dU, uU]); (try dsimp only [ktrTop, Around.deeper, Around.in1, Around.mark]); omega))
local macro_rules | `(tactic| k_enter) => `(tactic| (ktr_enter; intro g' L' h' kg' lL' FG' F' N' B' X' T'; (try dsimp only); (try k_fold)))
local macro_rules | `(tactic| walk_at "call ref") => `(tactic| (k_here; k_dflt (refine' call_clsK ?k1 ?k2 ?k3 ?k4 ?k5 ?k6 ?_; (case k1 => k_asm); (case k2 => k_asm); (case k3 => k_asm); (case k4 => k_is); (case k5 => k_is); (case k6 => k_is); k_whole; intro x' d' h' x1 l1 l2 F' N'; (try ((have l9 := news_lt (by assumption) l1); (k_lt l9))); (try k_lt2 l1); (try k_lt2 l2); (try k_sweep); k_enter)))

local macro_rules | `(tactic| ktr_enter) => `(tactic| (
  kp_kind "both";
  refine' enterBoth ?k1 ?k2 ?k3 ?k4 ?k5 ?kA ?kF ?kK ?k6 ?k7 ?k8 ?kV ?kX ?kQ ?kM ?kN ?kR ?kP ?kS ?kT ?kB ?_ ?c5 ?c2 ?c3 ?c4;
  (case kA => exact rfl); (case kF => exact rfl); (case kK => first | assumption | exact rfl); (case k1 => assumption); (case k2 => assumption); (case k3 => assumption); (case k4 => assumption); (case k5 => assumption);
  (case k6 => k_is); (case k7 => k_is); (case k8 => first | (simp only [recursionLimit]; omega) | ktr_room); (case kV => kp_lit); (case kX => kp_lit); (case kQ => exact rfl); (case kM => exact rfl); (case kN => exact rfl); (case kR => exact rfl); (case kP => exact rfl); (case kS => exact fun _ => rfl); (case kT => exact fun _ _ => rfl); (case kB => exact fun _ _ => locs rfl); (case c5 => decide); (case c2 => exact rfl); (case c3 => exact rfl); (case c4 => exact rfl)))
local macro_rules | `(tactic| walk_at "compareOp NotEq ref ref") => `(tactic| ((with_reducible show wpAny _ _ (compareOp CmpOp.NotEq (Value.ref 206) (Value.ref 206)) _ _ _); k_dflt (refine' ne_cls ?T ?u ?_; (case T => exact typeIs_K (by k_in) (by k_is)); (case u => ((show _ < 9900); ktr_unf)))))
local macro_rules | `(tactic| walk_at "compareOp Eq ref ref") => `(tactic| ((with_reducible show wpAny _ _ (compareOp CmpOp.Eq (Value.ref 206) (Value.ref 206)) _ _ _); k_dflt (refine' eq_cls ?T ?u ?_; (case T => exact typeIs_K (by k_in) (by k_is)); (case u => ((show _ < 9900); ktr_unf)))))
local macro_rules | `(tactic| walk_at "compareOp Eq none ref") => `(tactic| ((with_reducible show wpAny _ _ (compareOp CmpOp.Eq Value.none (Value.ref 206)) _ _ _); k_dflt (refine' eq_none_cls ?T ?u ?_; (case T => exact typeIs_K (by k_in) (by k_is)); (case u => ((show _ < 9900); ktr_unf)))))
local macro_rules | `(tactic| walk_at "getMethod ref") => `(tactic| ((with_reducible show wpAny _ _ (getMethod (Value.ref _) (Str.ofString "ByMemloc") _) _ _ _); k_dflt (refine' method_usual ?X ?I ?h1 ?h2 ?h3 ?h4 ?_; (case X => k_in); (case I => k_inst); (case h1 => k_is); (case h2 => k_is); (case h3 => k_is); (case h4 => kernel_rfl))))
local macro_rules | `(tactic| walk_at "call builtin:isinstance") => `(tactic| ((with_reducible show wpAny _ _ (call _ [Value.ref _, Value.ref 157]) _ _ _); k_dflt (refine' isi_call ?k1 ?k2 ?k3 ?k4 ?_; (case k1 => k_in); (case k2 => k_types); (case k3 => k_is); (case k4 => intro e; cases e); k_whole)))

theorem kept_extK {L : Addr} {ms : List Addr} {h h' g : Heap} (x : ∀ b o, h.get? b = some o → h'.get? b = some o) (k : Kept L ms h' g) : Kept L ms h g := fun b o e hL hb => k b o (x b o e) hL hb
theorem back_newK {h₀ g h h' : Heap} {L L' : Addr} {m m' : Str → Option Value} {ms : List Addr} {news news' : List (Addr × Obj)} (k : Kept L (news.map (·.1)) h g)
    (F : Fr h₀ L h' m) (F' : Fr g L' h' m') (N' : News g L' h' news') (hs : ∀ p ∈ news, h.get? p.1 = none ∨ p.1 ∈ ms ∨ (h.get? p.1 = some p.2 ∧ p ∈ news')) : Back h₀ L m ms h h' :=
  ⟨F, fun b o e hL hb => by
    by_cases hm : b ∈ news.map (·.1)
    · obtain ⟨p, hp, rfl⟩ := List.mem_map.mp hm
      rcases hs p hp with q | q | ⟨q, r⟩
      · rw [q] at e; cases e
      · exact absurd q hb
      · rw [q] at e; cases e; exact (N' p r).1
    · exact F'.keep b o (k b o e hL hm)⟩
local macro_rules | `(tactic| walk_at "callWith ref") => `(tactic| ((with_reducible show wpAny _ _ (callWith _ (Value.ref _) [] _ (backToKw _ (keywordEach (Keyword.mk none _ _ :: _) _))) _ _ _); refine Stop.mk ?_))
local macro_rules | `(tactic| walk_at "eval Call Attribute") => `(tactic| ((with_reducible show wpAny _ _ (eval (Expr.Call (Expr.Attribute _ _ _) (Expr.Starred _ _ :: _) (_ :: _) _) _) _ _ _); k_dflt (refine methodCall_SS ?_ rfl)))
local macro_rules | `(tactic| walk_at "call type:list") => `(tactic| ((with_reducible show wpAny _ _ (call (Value.type "list") [] []) _ _ _); k_dflt (refine' list0_K ?F ?N ?_; (case F => k_asm); (case N => k_asm)); intro D9 c9 h9 F9 N9 l9; (try k_lt l9); (try k_sweep)))
local macro_rules | `(tactic| k_handed) => `(tactic| exact handed_vD)
local macro_rules | `(tactic| k_enter) => `(tactic| (ktr_enter; intro C' D' tk1' nn1' g' L' h' tk2' kg' lC' lCD' lDL' lo' hdd' FG' F' N' B' X' T'; (try ((have lx9 := news_lt (by assumption) lC'); (k_lt lx9))); (k_lt2 lCD'); (try dsimp only); (try k_fold)))
local macro_rules | `(tactic| walk_at "call ref") => `(tactic| ((with_reducible show wpAny _ _ (call (Value.ref 224) _ _) _ _ _); refine Stop.mk ?_))
theorem pickA {h₀ h : Heap} {L : Addr} {a b c d e f g k : Addr × Obj} (N : News h₀ L h [a, b, c, d, e, f, g, k]) : News h₀ L h [e, f, b, g, k] :=
  List.forall_mem_cons.mpr ⟨N e (by simp), List.forall_mem_cons.mpr ⟨N f (by simp), List.forall_mem_cons.mpr ⟨N b (by simp), List.forall_mem_cons.mpr ⟨N g (by simp), List.forall_mem_cons.mpr ⟨N k (by simp), List.forall_mem_nil _⟩⟩⟩⟩⟩
theorem pickL {h₀ h : Heap} {L : Addr} {a b c d e g k : Addr × Obj} (N : News h₀ L h [a, b, c, d, e, g, k]) : News h₀ L h [a, b, c, d, e] := fun p hp => N p (by
  simp only [List.mem_cons, List.not_mem_nil, or_false] at hp ⊢
  rcases hp with h | h | h | h | h <;> simp [h])
theorem pickR {h₀ h : Heap} {L : Addr} {a b c g k : Addr × Obj} (N : News h₀ L h [a, b, c, g, k]) : News h₀ L h [g, k] := fun p hp => N p (by
  simp only [List.mem_cons, List.not_mem_nil, or_false] at hp ⊢
  rcases hp with h | h <;> simp [h])
theorem pickD {h₀ h : Heap} {L : Addr} {a b c d e : Addr × Obj} {r : List (Addr × Obj)} (N : News h₀ L h (a :: b :: c :: d :: e :: r)) : News h₀ L h [d, e, a] :=
  List.forall_mem_cons.mpr ⟨N d (by simp), List.forall_mem_cons.mpr ⟨N e (by simp), List.forall_mem_cons.mpr ⟨N a (by simp), List.forall_mem_nil _⟩⟩⟩
section
variable {w : World} {A₀ : Around} {s : Shared} {base h₀ : Heap} {outer : List Env} {L : Addr} {m : Str → Option Value} {mean : ExcName → Option Value} {mg mb : Str → Option Value}
  {Q E : Value → Shared → Prop} {dp un : Nat} {gd : Option (List Code)} {cn : Str} {cs : Scope} {a : Addr} {ccd : Value} {cl : List (Str × Addr)}

theorem mkDid0_ok (B : Below A₀ base outer h₀) (F : Fr h₀ L s.heap m) (X : (hd.heap_39 w.params).In h₀) (T : Top hd.view_39 LO mean mg mb h₀)
   (hke : cs.kind = .function) (hdp : dp + 50 < 1000) (hun : un + 500 < 9900)
   (hQ : ∀ x dx le k1 k2 n h' tk', Back h₀ L m [] s.heap h' → s.heap.objs.size ≤ dx → dx < x → x < le → News h₀ L h' [(x, instObj 255 dx), (dx, dictOf (didEs w k1 k2 le (vD false)) 2), (le, listOf #[] n)] → Q (.ref x) { s with heap := h', toks := tk' }) :
   wpAny (model PySem.Challenge.rw_eh5030_01.row.prog w) (ktrTop dp un gd cn cs L a ccd cl outer) (call (.ref 255) [] []) Q E s := by
  have N : News h₀ L s.heap [] := News.nil
  (try dsimp only); (try k_fold)
  k_steps
  refine' hQ _ _ _ _ _ _ _ _ ?bk ?o1 ?o2 ?o3 ?nn
  case nn => exact pickD (by assumption)
  case o1 => assumption
  case o2 => assumption
  case o3 => omega
  case bk => exact back_newK (kept_extK (by assumption) (by assumption)) (by assumption) (by assumption) (by assumption) (List.forall_mem_cons.mpr ⟨.inl (none_of_size (by omega)), List.forall_mem_cons.mpr ⟨.inl (none_of_size (by omega)), List.forall_mem_nil _⟩⟩)
theorem mkDid_pos {loc dloc : Addr} {odl : Obj} (B : Below A₀ base outer h₀) (F : Fr h₀ L s.heap m) (X : (hd.heap_39 w.params).In h₀) (T : Top hd.view_39 LO mean mg mb h₀)
   (hke : cs.kind = .function) (hdp : dp + 60 < 1000) (hun : un + 600 < 9900) (N : News h₀ L s.heap [(loc, instObj 157 dloc), (dloc, odl)])
   (hQ : ∀ x dx le en den k0 k1 k2 n h' tk', Back h₀ L m [] s.heap h' → s.heap.objs.size ≤ dx → dx < x → x < le → le < den → den < en → News h₀ L h' [(en, instObj 206 den), (den, dictOf [ent w (Str.ofString "memloc") k0 (.ref loc)] 1), (x, instObj 255 dx), (dx, dictOf (didEs w k1 k2 le (.ref 206)) 2), (le, listOf #[.ref en] n)] → Q (.ref x) { s with heap := h', toks := tk' }) :
   wpAny (model PySem.Challenge.rw_eh5030_01.row.prog w) (ktrTop dp un gd cn cs L a ccd cl outer) (call (.ref 255) [.ref loc] []) Q E s := by
  have hN := gets N
  (try dsimp only); (try k_fold)
  k_steps
  refine Stop.of ?_
  refine' callWith_SS ?F ?N ?hk ?hx ?hy ?hC ?hD ?hex ?lo ?hz ?_
  case F => k_asm
  case N => k_asm
  case hk => exact fun h' F' N' => keeps_M (K := hd.heap_39 w.params) (f := 224) (by k_is) h' ⟨(N' _ (by k_mem)).1, Frag.In.keeps (by k_asm) (Fr.keep F')⟩
  case hx => exact fun s' Q' F' h => ld F' rfl h
  case hy => exact fun s' Q' F' h => ld F' rfl h
  case hC => k_mem
  case hD => k_mem
  case hex => first | exact .inl rfl | exact .inr ⟨_, _, rfl⟩
  case lo => assumption
  case hz => exact Nat.le_of_ble_eq_true rfl
  intro h9 F9 N9
  refine call_meth N9 (by k_mem) ?_
  have NP := pickA N9
  have hL9 := F9.ns.lt
  refine' add_posC (b := false) ?B ?F ?X ?T ?hk ?hd ?hu ?n1 ?n2 ?n3 ?n4 ?n5 ?n6 ?n7 ?n8 ?N ?hsz ?_
  case N => exact NP
  case B => assumption
  case F => assumption
  case X => assumption
  case T => assumption
  case hk => rfl
  case hd => ktr_unf
  case hu => ktr_unf
  case n1 => (show @Ne Nat _ _); omega
  case n2 => (show @Ne Nat _ _); omega
  case n3 => (show @Ne Nat _ _); omega
  case n4 => (show @Ne Nat _ _); omega
  case n5 => (show @Ne Nat _ _); omega
  case n6 => (show @Ne Nat _ _); omega
  case n7 => (show @Ne Nat _ _); omega
  case n8 => (show @Ne Nat _ _); omega
  case hsz => decide
  intro en den k0 k1 k2 h' tk' K' o1 o2 N'
  have F' := K'.1
  have NR := K'.news (pickR NP) (fun p hp => by
    rcases List.mem_cons.mp hp with rfl | hp
    · simp only [List.mem_cons, List.not_mem_nil, or_false, not_or]; exact ⟨(by (show @Ne Nat _ _); omega), (by (show @Ne Nat _ _); omega)⟩
    · obtain rfl := List.mem_singleton.mp hp
      simp only [List.mem_cons, List.not_mem_nil, or_false, not_or]; exact ⟨(by (show @Ne Nat _ _); omega), (by (show @Ne Nat _ _); omega)⟩)
  have N9 := news_app N' NR
  simp only [List.cons_append, List.nil_append] at N9
  k_steps
  refine' hQ _ _ _ _ _ _ _ _ _ _ _ ?bk ?p1 ?p2 ?p3 ?p4 ?p5 ?nn
  case nn => exact pickL (by assumption)
  case p1 => assumption
  case p2 => assumption
  case p3 => omega
  case p4 => exact Nat.lt_of_lt_of_le (Heap.lt_size (NP _ (.tail _ (.tail _ (.head _)))).1) o1
  case p5 => assumption
  case bk => exact back_newK (kept_extK (by assumption) (by assumption)) (by assumption) (by assumption) (by assumption) (List.forall_mem_cons.mpr ⟨.inl (none_of_size (by omega)), List.forall_mem_cons.mpr ⟨.inl (none_of_size (by omega)), List.forall_mem_cons.mpr ⟨.inr (.inr ⟨hN _ (.head _), by k_mem⟩), List.forall_mem_cons.mpr ⟨.inr (.inr ⟨hN _ (.tail _ (.head _)), by k_mem⟩), List.forall_mem_nil _⟩⟩⟩⟩)
theorem mkDid_kw {loc dloc : Addr} {odl : Obj} (B : Below A₀ base outer h₀) (F : Fr h₀ L s.heap m) (X : (hd.heap_39 w.params).In h₀) (T : Top hd.view_39 LO mean mg mb h₀)
   (hke : cs.kind = .function) (hdp : dp + 60 < 1000) (hun : un + 600 < 9900) (N : News h₀ L s.heap [(loc, instObj 157 dloc), (dloc, odl)])
   (hQ : ∀ x dx le en den k0 k1 k2 n h' tk', Back h₀ L m [] s.heap h' → s.heap.objs.size ≤ dx → dx < x → x < le → le < den → den < en → News h₀ L h' [(en, instObj 206 den), (den, dictOf [ent w (Str.ofString "memloc") k0 (.ref loc)] 1), (x, instObj 255 dx), (dx, dictOf (didEs w k1 k2 le (.ref 206)) 2), (le, listOf #[.ref en] n)] → Q (.ref x) { s with heap := h', toks := tk' }) :
   wpAny (model PySem.Challenge.rw_eh5030_01.row.prog w) (ktrTop dp un gd cn cs L a ccd cl outer) (call (.ref 255) [] [(Str.ofString "memloc", .ref loc)]) Q E s := by
  have hN := gets N
  (try dsimp only); (try k_fold)
  k_steps
  rotate_left
  · exact absurd (by simp) (by assumption : ¬ (0 : Int) < ↑[(Str.ofString "memloc", Value.ref loc)].length)
  refine Stop.of ?_
  refine' callWith_SS ?F ?N ?hk ?hx ?hy ?hC ?hD ?hex ?lo ?hz ?_
  case F => k_asm
  case N => k_asm
  case hk => exact fun h' F' N' => keeps_M (K := hd.heap_39 w.params) (f := 224) (by k_is) h' ⟨(N' _ (by k_mem)).1, Frag.In.keeps (by k_asm) (Fr.keep F')⟩
  case hx => exact fun s' Q' F' h => ld F' rfl h
  case hy => exact fun s' Q' F' h => ld F' rfl h
  case hC => k_mem
  case hD => k_mem
  case hex => first | exact .inl rfl | exact .inr ⟨_, _, rfl⟩
  case lo => assumption
  case hz => exact Nat.le_of_ble_eq_true rfl
  intro h9 F9 N9
  refine call_meth N9 (by k_mem) ?_
  have NP := pickA N9
  have hL9 := F9.ns.lt
  refine' add_kwC (b := false) ?B ?F ?X ?T ?hk ?hd ?hu ?n1 ?n2 ?n3 ?n4 ?n5 ?n6 ?n7 ?n8 ?N ?hsz ?_
  case N => exact NP
  case B => assumption
  case F => assumption
  case X => assumption
  case T => assumption
  case hk => rfl
  case hd => ktr_unf
  case hu => ktr_unf
  case n1 => (show @Ne Nat _ _); omega
  case n2 => (show @Ne Nat _ _); omega
  case n3 => (show @Ne Nat _ _); omega
  case n4 => (show @Ne Nat _ _); omega
  case n5 => (show @Ne Nat _ _); omega
  case n6 => (show @Ne Nat _ _); omega
  case n7 => (show @Ne Nat _ _); omega
  case n8 => (show @Ne Nat _ _); omega
  case hsz => decide
  intro en den k0 k1 k2 h' tk' K' o1 o2 N'
  have F' := K'.1
  have NR := K'.news (pickR NP) (fun p hp => by
    rcases List.mem_cons.mp hp with rfl | hp
    · simp only [List.mem_cons, List.not_mem_nil, or_false, not_or]; exact ⟨(by (show @Ne Nat _ _); omega), (by (show @Ne Nat _ _); omega)⟩
    · obtain rfl := List.mem_singleton.mp hp
      simp only [List.mem_cons, List.not_mem_nil, or_false, not_or]; exact ⟨(by (show @Ne Nat _ _); omega), (by (show @Ne Nat _ _); omega)⟩)
  have N9 := news_app N' NR
  simp only [List.cons_append, List.nil_append] at N9
  k_steps
  refine' hQ _ _ _ _ _ _ _ _ _ _ _ ?bk ?p1 ?p2 ?p3 ?p4 ?p5 ?nn
  case nn => exact pickL (by assumption)
  case p1 => assumption
  case p2 => assumption
  case p3 => omega
  case p4 => exact Nat.lt_of_lt_of_le (Heap.lt_size (NP _ (.tail _ (.tail _ (.head _)))).1) o1
  case p5 => assumption
  case bk => exact back_newK (kept_extK (by assumption) (by assumption)) (by assumption) (by assumption) (by assumption) (List.forall_mem_cons.mpr ⟨.inl (none_of_size (by omega)), List.forall_mem_cons.mpr ⟨.inl (none_of_size (by omega)), List.forall_mem_cons.mpr ⟨.inr (.inr ⟨hN _ (.head _), by k_mem⟩), List.forall_mem_cons.mpr ⟨.inr (.inr ⟨hN _ (.tail _ (.head _)), by k_mem⟩), List.forall_mem_nil _⟩⟩⟩⟩)
end
end Mine
namespace Mine
open PySem PySem.Calls PySem.Spec
theorem rs_F1 : True := by w_top off; trivial
local macro_rules | `(tactic| ktr_enter) => `(tactic| (
  refine' enterK ?k1 ?k2 ?k3 ?k4 ?k5 ?kA ?kF ?kK ?k6 ?k7 ?k8 ?k9 ?kB ?_ ?c5 ?c2 ?c3 ?c4;
  (case kA => exact rfl); (case kF => exact rfl); (case kK => first | assumption | exact rfl); (case k1 => assumption); (case k2 => assumption); (case k3 => assumption); (case k4 => assumption); (case k5 => assumption);
  (case k6 => k_is); (case k7 => k_is); (case k8 => first | (simp only [recursionLimit]; omega) | ktr_room); (case k9 => first | exact BindsTo.of_eq rfl | exact binds_K (by k_in) rfl (by k_is) rfl rfl rfl); (case c5 => decide); (case kB => exact locs rfl); (case c2 => exact rfl); (case c3 => exact rfl); (case c4 => exact rfl)))
local macro_rules | `(tactic| walk_at "subscriptTail") => `(tactic| ((with_reducible show wpAny _ _ (subscriptTail _ _ (Value.ref 58) (Value.int _ _)) _ _ _); k_dflt (refine' item58 ?F ?X ?h ?_; (case F => k_asm); (case X => k_asm); (case h => assumption)); intro t'))
local macro_rules | `(tactic| walk_at "subscriptTail") => `(tactic| ((with_reducible show wpAny _ _ (subscriptTail _ _ (Value.ref 57) (Value.int _ _)) _ _ _); k_dflt (refine' item57 ?F ?X ?h ?_; (case F => k_asm); (case X => k_asm); (case h => assumption)); intro t'))
local macro_rules | `(tactic| walk_at "compareOp NotIn int ref") => `(tactic| ((with_reducible show wpAny _ _ (compareOp CmpOp.NotIn (Value.int _ _) (Value.ref 58)) _ _ _); k_dflt (refine' notin58 ?F ?X ?_; (case F => k_asm); (case X => k_asm))))
local macro_rules | `(tactic| walk_at "compareOp NotIn int ref") => `(tactic| ((with_reducible show wpAny _ _ (compareOp CmpOp.NotIn (Value.int _ _) (Value.ref 57)) _ _ _); k_dflt (refine' notin57 ?F ?X ?_; (case F => k_asm); (case X => k_asm))))
local macro_rules | `(tactic| walk_at "binaryOp LShift int int") => `(tactic| (refine lshift_int_small (by decide) (by decide) (by omega) ?_))
local macro_rules | `(tactic| walk_at "call builtin:_struct.pack") => `(tactic| ((with_reducible show wpAny _ _ (call (Value.builtin _) [Value.str _ _, Value.int _ _]) _ _ _); k_dflt (first | (refine' pack_B ?h0 ?h1 ?_; (case h0 => omega); (case h1 => omega)) | (refine' pack_q ?h0 ?h1 ?_; (case h0 => omega); (case h1 => omega))); intro t'))
local macro_rules | `(tactic| ktr_rel) => `(tactic| exact back_led (by assumption) (by assumption) (by assumption) (by assumption) (by assumption) (fun p hp => .inr hp))
local macro_rules | `(tactic| ktr_unf) => `(tactic| first | omega | ((try dsimp only [Around.deeper, Around.in1, Around.mark]); (try simp only [dU, uU]); (try dsimp only [ktrTop, Around.deeper, Around.in1, Around.mark]); omega))
local macro_rules | `(tactic| k_enter) => `(tactic| (ktr_enter; intro g' L' h' kg' lL' FG' F' N' B' X' T'; (try dsimp only); (try k_fold)))
local macro_rules | `(tactic| walk_at "call ref") => `(tactic| (k_here; k_dflt (refine' call_clsK ?k1 ?k2 ?k3 ?k4 ?k5 ?k6 ?_; (case k1 => k_asm); (case k2 => k_asm); (case k3 => k_asm); (case k4 => k_is); (case k5 => k_is); (case k6 => k_is); k_whole; intro x' d' h' x1 l1 l2 F' N'; (try ((have l9 := news_lt (by assumption) l1); (k_lt l9))); (try k_lt2 l1); (try k_lt2 l2); (try k_sweep); k_enter)))

theorem be8_size {v : Nat} : (be8 v).size = 8 := by simp [be8]
theorem cut8 {l : List Int} {k : Int} {r : List Int} (hl : l.length = 8) (h1 : 1 ≤ k) (h2 : k ≤ 8) (h : r = ((l.drop ((some (-k) : Option Int).elim 0 (clipAt l.length))).take ((none : Option Int).elim l.length (clipAt l.length) - (some (-k) : Option Int).elim 0 (clipAt l.length)))) :
    r = l.drop (8 - k.toNat) := by
  have hc : clipAt 8 (-k) = 8 - k.toNat := by
    unfold clipAt
    rw [if_pos (by omega)]
    omega
  simp only [Option.elim, hl, hc] at h
  rw [h]
  exact List.take_of_length_le (Nat.le_of_eq (by rw [List.length_drop, hl]))
local macro_rules | `(tactic| walk_at "subscriptTail") => `(tactic| ((with_reducible show wpAny _ _ (subscriptTail _ (Expr.Slice _ _ none _) (Value.bytes _ _) (Value.ref _)) _ _ _); (with_reducible rename Fr _ _ _ _ => F'); (with_reducible rename News _ _ _ _ => N'); (refine KBc.slice_K (s := ⟨_, _, _, _, _⟩) F' N' rfl (by constructor) (by constructor) (by rw [KBw.ints_length, be8_size]; decide) ?_); intro _ _ _ _ _ kbcK))
section
variable {w : World} {A₀ : Around} {s : Shared} {base h₀ : Heap} {outer : List Env} {L : Addr} {m : Str → Option Value} {mean : ExcName → Option Value} {mg mb : Str → Option Value}
  {Q E : Value → Shared → Prop} {dp un : Nat} {gd : Option (List Code)} {cn : Str} {cs : Scope} {a : Addr} {ccd : Value} {cl : List (Str × Addr)}

theorem get_a_ok {x dx al dal : Addr} {ad sz af mf : Int} {lo hi : Value} {t0 t1 t2 t3 t4 t5 t6 ta ts u v : Tok} (B : Below A₀ base outer h₀) (F : Fr h₀ L s.heap m) (X : (hd.heap_39 w.params).In h₀) (T : Top hd.view_39 LO mean mg mb h₀)
   (hke : cs.kind = .function) (hdp : dp + 10 < 1000) (hun : un + 100 < 9900)
   (N : News h₀ L s.heap [(x, instObj 157 dx), (dx, dictOf (locEs w t0 t1 t2 t3 t4 (.int ad ta) (.int sz ts) lo hi (.ref al)) 5), (al, instObj 82 dal), (dal, dictOf (alfEs w t5 t6 (.int mf u) (.int af v)) 2)])
   (ha1 : 0 ≤ ad) (ha2 : ad < 2 ^ 63) (he : e8 af = true)
   (hQ : ∀ b h' t' tk', KBw.bInts b = (KBw.bInts (be8 ad.toNat)).drop (8 - (af / 8).toNat) → Back h₀ L m [] s.heap h' → Q (.bytes b t') { s with heap := h', toks := tk' }) :
   wpAny (model PySem.Challenge.rw_eh5030_01.row.prog w) (ktrTop dp un gd cn cs L a ccd cl outer) (call (.ref 130) [.ref x] []) Q E s := by
  refine wpAny_call ?_
  k_dflt ktr_enter
  have hN := gets N
  intro g L' h₁ kg lL FG F N B X T
  (try dsimp only); (try k_fold)
  have hb := (e8_iff.mp he)
  k_steps
  refine hQ _ _ _ _ (cut8 (by rw [KBw.ints_length, be8_size]) (by omega) (by omega) (by assumption)) (by ktr_rel)
theorem get_m_ok {x dx al dal : Addr} {ad sz af mf : Int} {lo hi : Value} {t0 t1 t2 t3 t4 t5 t6 ta ts u v : Tok} (B : Below A₀ base outer h₀) (F : Fr h₀ L s.heap m) (X : (hd.heap_39 w.params).In h₀) (T : Top hd.view_39 LO mean mg mb h₀)
   (hke : cs.kind = .function) (hdp : dp + 10 < 1000) (hun : un + 100 < 9900)
   (N : News h₀ L s.heap [(x, instObj 157 dx), (dx, dictOf (locEs w t0 t1 t2 t3 t4 (.int ad ta) (.int sz ts) lo hi (.ref al)) 5), (al, instObj 82 dal), (dal, dictOf (alfEs w t5 t6 (.int mf u) (.int af v)) 2)])
   (ha1 : 0 ≤ sz) (ha2 : sz < 2 ^ 63) (he : e8 mf = true)
   (hQ : ∀ b h' t' tk', KBw.bInts b = (KBw.bInts (be8 sz.toNat)).drop (8 - (mf / 8).toNat) → Back h₀ L m [] s.heap h' → Q (.bytes b t') { s with heap := h', toks := tk' }) :
   wpAny (model PySem.Challenge.rw_eh5030_01.row.prog w) (ktrTop dp un gd cn cs L a ccd cl outer) (call (.ref 137) [.ref x] []) Q E s := by
  refine wpAny_call ?_
  k_dflt ktr_enter
  have hN := gets N
  intro g L' h₁ kg lL FG F N B X T
  (try dsimp only); (try k_fold)
  have hb := (e8_iff.mp he)
  k_steps
  refine hQ _ _ _ _ (cut8 (by rw [KBw.ints_length, be8_size]) (by omega) (by omega) (by assumption)) (by ktr_rel)
end
end Mine
namespace Mine
open PySem PySem.Calls PySem.Spec
theorem rs_G1 : True := by w_top off; trivial
local macro_rules | `(tactic| ktr_enter) => `(tactic| (
  refine' enterK ?k1 ?k2 ?k3 ?k4 ?k5 ?kA ?kF ?kK ?k6 ?k7 ?k8 ?k9 ?kB ?_ ?c5 ?c2 ?c3 ?c4;
  (case kA => exact rfl); (case kF => exact rfl); (case kK => first | assumption | exact rfl); (case k1 => assumption); (case k2 => assumption); (case k3 => assumption); (case k4 => assumption); (case k5 => assumption);
  (case k6 => k_is); (case k7 => k_is); (case k8 => first | (simp only [recursionLimit]; omega) | ktr_room); (case k9 => first | exact BindsTo.of_eq rfl | exact binds_K (by k_in) rfl (by k_is) rfl rfl rfl); (case c5 => decide); (case kB => exact locs rfl); (case c2 => exact rfl); (case c3 => exact rfl); (case c4 => exact rfl)))
local macro_rules | `(tactic| walk_at "subscriptTail") => `(tactic| ((with_reducible show wpAny _ _ (subscriptTail _ _ (Value.ref 58) (Value.int _ _)) _ _ _); k_dflt (refine' item58 ?F ?X ?h ?_; (case F => k_asm); (case X => k_asm); (case h => assumption)); intro t'))
local macro_rules | `(tactic| walk_at "subscriptTail") => `(tactic| ((with_reducible show wpAny _ _ (subscriptTail _ _ (Value.ref 57) (Value.int _ _)) _ _ _); k_dflt (refine' item57 ?F ?X ?h ?_; (case F => k_asm); (case X => k_asm); (case h => assumption)); intro t'))
local macro_rules | `(tactic| walk_at "compareOp NotIn int ref") => `(tactic| ((with_reducible show wpAny _ _ (compareOp CmpOp.NotIn (Value.int _ _) (Value.ref 58)) _ _ _); k_dflt (refine' notin58 ?F ?X ?_; (case F => k_asm); (case X => k_asm))))
local macro_rules | `(tactic| walk_at "compareOp NotIn int ref") => `(tactic| ((with_reducible show wpAny _ _ (compareOp CmpOp.NotIn (Value.int _ _) (Value.ref 57)) _ _ _); k_dflt (refine' notin57 ?F ?X ?_; (case F => k_asm); (case X => k_asm))))
local macro_rules | `(tactic| walk_at "binaryOp LShift int int") => `(tactic| (refine lshift_int_small (by decide) (by decide) (by omega) ?_))
local macro_rules | `(tactic| walk_at "call builtin:_struct.pack") => `(tactic| ((with_reducible show wpAny _ _ (call (Value.builtin _) [Value.str _ _, Value.int _ _]) _ _ _); k_dflt (first | (refine' pack_B ?h0 ?h1 ?_; (case h0 => omega); (case h1 => omega)) | (refine' pack_q ?h0 ?h1 ?_; (case h0 => omega); (case h1 => omega))); intro t'))
local macro_rules | `(tactic| ktr_rel) => `(tactic| exact back_led (by assumption) (by assumption) (by assumption) (by assumption) (by assumption) (fun p hp => .inr hp))
local macro_rules | `(tactic| ktr_unf) => `(tactic| first | omega | ((try dsimp only [Around.deeper, Around.in1, Around.mark]); (try simp only [dU, uU]); (try dsimp only [ktrTop, Around.deeper, Around.in1, Around.mark]); omega))
local macro_rules | `(tactic| k_enter) => `(tactic| (ktr_enter; intro g' L' h' kg' lL' FG' F' N' B' X' T'; (try dsimp only); (try k_fold)))
local macro_rules | `(tactic| walk_at "call ref") => `(tactic| (k_here; k_dflt (refine' call_clsK ?k1 ?k2 ?k3 ?k4 ?k5 ?k6 ?_; (case k1 => k_asm); (case k2 => k_asm); (case k3 => k_asm); (case k4 => k_is); (case k5 => k_is); (case k6 => k_is); k_whole; intro x' d' h' x1 l1 l2 F' N'; (try ((have l9 := news_lt (by assumption) l1); (k_lt l9))); (try k_lt2 l1); (try k_lt2 l2); (try k_sweep); k_enter)))

local macro_rules | `(tactic| ktr_enter) => `(tactic| (
  kp_kind "both";
  refine' enterBoth ?k1 ?k2 ?k3 ?k4 ?k5 ?kA ?kF ?kK ?k6 ?k7 ?k8 ?kV ?kX ?kQ ?kM ?kN ?kR ?kP ?kS ?kT ?kB ?_ ?c5 ?c2 ?c3 ?c4;
  (case kA => exact rfl); (case kF => exact rfl); (case kK => first | assumption | exact rfl); (case k1 => assumption); (case k2 => assumption); (case k3 => assumption); (case k4 => assumption); (case k5 => assumption);
  (case k6 => k_is); (case k7 => k_is); (case k8 => first | (simp only [recursionLimit]; omega) | ktr_room); (case kV => kp_lit); (case kX => kp_lit); (case kQ => exact rfl); (case kM => exact rfl); (case kN => exact rfl); (case kR => exact rfl); (case kP => exact rfl); (case kS => exact fun _ => rfl); (case kT => exact fun _ _ => rfl); (case kB => exact fun _ _ => locs rfl); (case c5 => decide); (case c2 => exact rfl); (case c3 => exact rfl); (case c4 => exact rfl)))
local macro_rules | `(tactic| walk_at "compareOp NotEq ref ref") => `(tactic| ((with_reducible show wpAny _ _ (compareOp CmpOp.NotEq (Value.ref 206) (Value.ref 206)) _ _ _); k_dflt (refine' ne_cls ?T ?u ?_; (case T => exact typeIs_K (by k_in) (by k_is)); (case u => ((show _ < 9900); ktr_unf)))))
local macro_rules | `(tactic| walk_at "compareOp Eq ref ref") => `(tactic| ((with_reducible show wpAny _ _ (compareOp CmpOp.Eq (Value.ref 206) (Value.ref 206)) _ _ _); k_dflt (refine' eq_cls ?T ?u ?_; (case T => exact typeIs_K (by k_in) (by k_is)); (case u => ((show _ < 9900); ktr_unf)))))
local macro_rules | `(tactic| walk_at "compareOp Eq none ref") => `(tactic| ((with_reducible show wpAny _ _ (compareOp CmpOp.Eq Value.none (Value.ref 206)) _ _ _); k_dflt (refine' eq_none_cls ?T ?u ?_; (case T => exact typeIs_K (by k_in) (by k_is)); (case u => ((show _ < 9900); ktr_unf)))))
local macro_rules | `(tactic| walk_at "getMethod ref") => `(tactic| ((with_reducible show wpAny _ _ (getMethod (Value.ref _) (Str.ofString "ByMemloc") _) _ _ _); k_dflt (refine' method_usual ?X ?I ?h1 ?h2 ?h3 ?h4 ?_; (case X => k_in); (case I => k_inst); (case h1 => k_is); (case h2 => k_is); (case h3 => k_is); (case h4 => kernel_rfl))))
local macro_rules | `(tactic| walk_at "call builtin:isinstance") => `(tactic| ((with_reducible show wpAny _ _ (call _ [Value.ref _, Value.ref 157]) _ _ _); k_dflt (refine' isi_call ?k1 ?k2 ?k3 ?k4 ?_; (case k1 => k_in); (case k2 => k_types); (case k3 => k_is); (case k4 => intro e; cases e); k_whole)))

local macro_rules | `(tactic| k_handed) => `(tactic| exact handed_vD)
section
variable {prog : Program} {w : World} {A : Around} {E : Value → Shared → Prop} {s : Shared} {Q : Value → Shared → Prop} {b : Bool}
theorem eq_vD (hT : s.TypeIs (.ref 206) "type") (hu : A.units < cLine) (h : Q (.bool b) s) : wpAny (model prog w) A (compareOp .Eq (vD b) (.ref 206)) Q E s := by
  cases b with
  | false => exact eq_none_cls hT hu h
  | true => exact eq_cls hT hu h
end
local macro_rules | `(tactic| walk_at "compareOp Eq") => `(tactic| ((with_reducible show wpAny _ _ (compareOp CmpOp.Eq (vD _) (Value.ref 206)) _ _ _); k_dflt (refine' eq_vD ?T ?u ?_; (case T => exact typeIs_K (by k_in) (by k_is)); (case u => ((show _ < 9900); ktr_unf)))))
section
variable {w : World} {A₀ : Around} {s : Shared} {base h₀ : Heap} {outer : List Env} {L : Addr} {m : Str → Option Value} {mean : ExcName → Option Value} {mg mb : Str → Option Value}
  {Q E : Value → Shared → Prop} {dp un : Nat} {gd : Option (List Code)} {cn : Str} {cs : Scope} {a : Addr} {ccd : Value} {cl : List (Str × Addr)}

theorem isby_ok {x dx le : Addr} {b : Bool} {t0 t1 : Tok} (B : Below A₀ base outer h₀) (F : Fr h₀ L s.heap m) (X : (hd.heap_39 w.params).In h₀) (T : Top hd.view_39 LO mean mg mb h₀)
   (hke : cs.kind = .function) (hdp : dp + 10 < 1000) (hun : un + 100 < 9900)
   (N : News h₀ L s.heap [(x, instObj 255 dx), (dx, dictOf (didEs w t0 t1 le (vD b)) 2)])
   (hQ : ∀ h' tk', Back h₀ L m [] s.heap h' → Q (.bool b) { s with heap := h', toks := tk' }) :
   wpAny (model PySem.Challenge.rw_eh5030_01.row.prog w) (ktrTop dp un gd cn cs L a ccd cl outer) (call (.ref 238) [.ref x] []) Q E s := by
  refine wpAny_call ?_
  k_dflt ktr_enter
  have hN := gets N
  intro g L' h₁ kg lL FG F N B X T
  (try dsimp only); (try k_fold)
  k_steps
  all_goals
    rename b = _ => hb9
    rw [hb9] at hQ
    exact hQ _ _ (by ktr_rel)
theorem get_ok {x dx le : Addr} {b : Bool} {t0 t1 : Tok} (B : Below A₀ base outer h₀) (F : Fr h₀ L s.heap m) (X : (hd.heap_39 w.params).In h₀) (T : Top hd.view_39 LO mean mg mb h₀)
   (hke : cs.kind = .function) (hdp : dp + 10 < 1000) (hun : un + 100 < 9900)
   (N : News h₀ L s.heap [(x, instObj 255 dx), (dx, dictOf (didEs w t0 t1 le (vD b)) 2)])
   (hQ : ∀ h' tk', Back h₀ L m [] s.heap h' → Q (.ref le) { s with heap := h', toks := tk' }) :
   wpAny (model PySem.Challenge.rw_eh5030_01.row.prog w) (ktrTop dp un gd cn cs L a ccd cl outer) (call (.ref 252) [.ref x] []) Q E s := by
  refine wpAny_call ?_
  k_dflt ktr_enter
  have hN := gets N
  intro g L' h₁ kg lL FG F N B X T
  (try dsimp only); (try k_fold)
  k_steps
  exact hQ _ _ (by ktr_rel)
end
end Mine
namespace Mine
open PySem PySem.Calls PySem.Spec
theorem rs_G2 : True := by w_top off; trivial
local macro_rules | `(tactic| ktr_enter) => `(tactic| (
  refine' enterK ?k1 ?k2 ?k3 ?k4 ?k5 ?kA ?kF ?kK ?k6 ?k7 ?k8 ?k9 ?kB ?_ ?c5 ?c2 ?c3 ?c4;
  (case kA => exact rfl); (case kF => exact rfl); (case kK => first | assumption | exact rfl); (case k1 => assumption); (case k2 => assumption); (case k3 => assumption); (case k4 => assumption); (case k5 => assumption);
  (case k6 => k_is); (case k7 => k_is); (case k8 => first | (simp only [recursionLimit]; omega) | ktr_room); (case k9 => first | exact BindsTo.of_eq rfl | exact binds_K (by k_in) rfl (by k_is) rfl rfl rfl); (case c5 => decide); (case kB => exact locs rfl); (case c2 => exact rfl); (case c3 => exact rfl); (case c4 => exact rfl)))
local macro_rules | `(tactic| walk_at "subscriptTail") => `(tactic| ((with_reducible show wpAny _ _ (subscriptTail _ _ (Value.ref 58) (Value.int _ _)) _ _ _); k_dflt (refine' item58 ?F ?X ?h ?_; (case F => k_asm); (case X => k_asm); (case h => assumption)); intro t'))
local macro_rules | `(tactic| walk_at "subscriptTail") => `(tactic| ((with_reducible show wpAny _ _ (subscriptTail _ _ (Value.ref 57) (Value.int _ _)) _ _ _); k_dflt (refine' item57 ?F ?X ?h ?_; (case F => k_asm); (case X => k_asm); (case h => assumption)); intro t'))
local macro_rules | `(tactic| walk_at "compareOp NotIn int ref") => `(tactic| ((with_reducible show wpAny _ _ (compareOp CmpOp.NotIn (Value.int _ _) (Value.ref 58)) _ _ _); k_dflt (refine' notin58 ?F ?X ?_; (case F => k_asm); (case X => k_asm))))
local macro_rules | `(tactic| walk_at "compareOp NotIn int ref") => `(tactic| ((with_reducible show wpAny _ _ (compareOp CmpOp.NotIn (Value.int _ _) (Value.ref 57)) _ _ _); k_dflt (refine' notin57 ?F ?X ?_; (case F => k_asm); (case X => k_asm))))
local macro_rules | `(tactic| walk_at "binaryOp LShift int int") => `(tactic| (refine lshift_int_small (by decide) (by decide) (by omega) ?_))
local macro_rules | `(tactic| walk_at "call builtin:_struct.pack") => `(tactic| ((with_reducible show wpAny _ _ (call (Value.builtin _) [Value.str _ _, Value.int _ _]) _ _ _); k_dflt (first | (refine' pack_B ?h0 ?h1 ?_; (case h0 => omega); (case h1 => omega)) | (refine' pack_q ?h0 ?h1 ?_; (case h0 => omega); (case h1 => omega))); intro t'))
local macro_rules | `(tactic| ktr_rel) => `(tactic| exact back_led (by assumption) (by assumption) (by assumption) (by assumption) (by assumption) (fun p hp => .inr hp))
local macro_rules | `(tactic| ktr_unf) => `(tactic| first | omega | ((try dsimp only [Around.deeper, Around.in1, Around.mark]); (try simp only [dU, uU]); (try dsimp only [ktrTop, Around.deeper, Around.in1, Around.mark]); omega))
local macro_rules | `(tactic| k_enter) => `(tactic| (ktr_enter; intro g' L' h' kg' lL' FG' F' N' B' X' T'; (try dsimp only); (try k_fold)))
local macro_rules | `(tactic| walk_at "call ref") => `(tactic| (k_here; k_dflt (refine' call_clsK ?k1 ?k2 ?k3 ?k4 ?k5 ?k6 ?_; (case k1 => k_asm); (case k2 => k_asm); (case k3 => k_asm); (case k4 => k_is); (case k5 => k_is); (case k6 => k_is); k_whole; intro x' d' h' x1 l1 l2 F' N'; (try ((have l9 := news_lt (by assumption) l1); (k_lt l9))); (try k_lt2 l1); (try k_lt2 l2); (try k_sweep); k_enter)))

/-- how many turns the law's counting takes -/
def oct0 (v : Int) : Int := if v = 0 then 0 else octs v
theorem octs_le {v : Int} {k : Nat} (h : 0 ≤ v) : octs v ≤ k ↔ v < 256 ^ k := by
  have e := PySem.intBits_le_iff (m := 8 * k) (x := v)
  have p : (2 : Nat) ^ (8 * k) = 256 ^ k := by rw [Nat.pow_mul]
  rw [p] at e
  have q : ((256 ^ k : Nat) : Int) = (256 : Int) ^ k := by simp
  unfold octs
  constructor
  · intro hk
    have := e.mp (by omega)
    omega
  · intro hk
    have := e.mpr (by omega)
    omega
theorem oct_step {v : Int} (h : 1 ≤ v) : octs v = 1 + oct0 (v / 256) := by
  have h0 : 0 ≤ v / 256 := by omega
  have ho : ∀ x : Int, 0 ≤ octs x := fun x => by unfold octs; omega
  unfold oct0
  by_cases hz : v / 256 = 0
  · rw [if_pos hz]
    have h1 := (octs_le (v := v) (k := 1) (by omega)).mpr (by omega)
    have h2 : ¬ octs v ≤ (0 : Nat) := fun q => by have := (octs_le (v := v) (k := 0) (by omega)).mp q; omega
    omega
  · rw [if_neg hz]
    obtain ⟨a, ha⟩ := Int.eq_ofNat_of_zero_le (ho v)
    obtain ⟨b, hb⟩ := Int.eq_ofNat_of_zero_le (ho (v / 256))
    have h1 := (octs_le (v := v / 256) (k := b) h0).mp (by omega)
    have h2 : octs v ≤ ((b + 1 : Nat) : Int) := (octs_le (v := v) (by omega)).mpr (by
      rw [Int.pow_succ]; omega)
    have h3 : ¬ octs v ≤ (b : Nat) := fun q => by
      have h4 := (octs_le (v := v) (by omega)).mp q
      cases b with
      | zero =>
        have : v < 1 := by simpa using h4
        omega
      | succ c =>
        have h5 : v / 256 < 256 ^ c := by
          rw [Int.pow_succ] at h4; omega
        have h6 := (octs_le (v := v / 256) (k := c) h0).mpr h5
        omega
    omega
local macro_rules | `(tactic| walk_at "exec While") => `(tactic| refine Stop.mk ?_)
local macro_rules | `(tactic| walk_at "eval Name") => `(tactic| (k_dflt (refine' ld ?k1 ?k2 ?_; (case k1 => k_asm); (case k2 => first | assumption | exact rfl | ((simp (decide := true) only [↓reduceIte]); assumption)))))
theorem lnG {M : Model} {A : Around} {E Q : Value → Shared → Prop} {s : Shared} {name : Str} {scope : Scope} {a L : Addr} {cd : Value} {h₀ : Heap} {m : Str → Option Value} {x : Str} {v : Value} (F : Fr h₀ L s.heap m) (hv : m x = some v) (h : Q v s)
    (hk : scope.kind = .function := by rfl) (hl : (envOf name scope L a cd).kindOf x = some .local := by rfl) : wpAny M A (loadName (envOf name scope L a cd) x) Q E s := wpAny_loadName_local hk hl F.ns hv h
local macro_rules | `(tactic| walk_at "loadName") => `(tactic| (k_dflt (refine' lnG ?k1 ?k2 ?_; (case k1 => k_asm); (case k2 => first | assumption | exact rfl | ((simp (decide := true) only [↓reduceIte]); assumption)))))
section
variable {w : World} {A₀ : Around} {s : Shared} {base h₀ : Heap} {outer : List Env} {L : Addr} {m : Str → Option Value} {mean : ExcName → Option Value} {mg mb : Str → Option Value}
  {Q E : Value → Shared → Prop} {dp un : Nat} {gd : Option (List Code)} {cn : Str} {cs : Scope} {a : Addr} {ccd : Value} {cl : List (Str × Addr)}

theorem octets_ok {n : Int} {t : Tok} (B : Below A₀ base outer h₀) (F : Fr h₀ L s.heap m) (X : (hd.heap_39 w.params).In h₀) (T : Top hd.view_39 LO mean mg mb h₀)
   (hke : cs.kind = .function) (hdp : dp + 10 < 1000) (hun : un + 100 < 9900) (h1 : 1 ≤ n)
   (hQ : ∀ h' t' tk', Back h₀ L m [] s.heap h' → Q (.int (octs n) t') { s with heap := h', toks := tk' }) :
   wpAny (model PySem.Challenge.rw_eh5030_01.row.prog w) (ktrTop dp un gd cn cs L a ccd cl outer) (call (.ref 266) [.int n t] []) Q E s := by
  refine wpAny_call ?_
  have N : News h₀ L s.heap [] := News.nil
  k_dflt ktr_enter
  have hN := gets N
  intro g L' h₁ kg lL FG F N B X T
  (try dsimp only); (try k_fold)
  k_steps
  refine While_inv (fun k m₁ news₁ => ∃ v c t1 t2, m₁ (Str.ofString "n") = some (.int v t2) ∧ m₁ (Str.ofString "count") = some (.int c t1) ∧ news₁ = [] ∧ 0 ≤ v ∧ c + oct0 v = octs n ∧ k = v.toNat) (by assumption) (by assumption) ⟨n, 0, _, _, rfl, rfl, rfl, by omega, by unfold oct0; rw [if_neg (by omega)]; omega, rfl⟩ ?_
  rintro k m₁ news₁ h₂ tk₂ F₁ N₁ ⟨v, c, t1, t2, hn, hc, rfl, hv, hi, rfl⟩
  k_steps
  · have hv1 : 1 ≤ v := by omega
    have hst := oct_step hv1
    refine WhileStep.intro (by assumption) (by assumption) (n' := (v.fdiv 256).toNat) ?_ ⟨v.fdiv 256, c + 1, _, _, rfl, rfl, rfl, ?_, ?_, rfl⟩
    · rw [Int.fdiv_eq_ediv_of_nonneg _ (by decide)]; omega
    · rw [Int.fdiv_eq_ediv_of_nonneg _ (by decide)]; omega
    · rw [Int.fdiv_eq_ediv_of_nonneg _ (by decide)]
      rw [← hi]
      unfold oct0 at hst ⊢
      rw [if_neg (show ¬ v = 0 by omega)]
      omega
  · have hz : v = 0 := by omega
    subst hz
    have : c = octs n := by rw [← hi]; unfold oct0; rw [if_pos rfl]; omega
    rw [this]
    exact hQ _ _ _ (by ktr_rel)
end
end Mine
namespace Mine
open PySem PySem.Calls PySem.Spec
theorem rs_R1 : True := by w_top off; trivial
local macro_rules | `(tactic| walk_at "zz") => `(tactic| fail)
local macro_rules | `(tactic| walk_at "zz") => `(tactic| fail)
local macro_rules | `(tactic| walk_at "zz") => `(tactic| fail)
local macro_rules | `(tactic| walk_at "zz") => `(tactic| fail)
local macro_rules | `(tactic| ktr_enter) => `(tactic| (
  refine' enterK ?k1 ?k2 ?k3 ?k4 ?k5 ?kA ?kF ?kK ?k6 ?k7 ?k8 ?k9 ?kB ?_ ?c5 ?c2 ?c3 ?c4;
  (case kA => exact rfl); (case kF => exact rfl); (case kK => first | assumption | exact rfl); (case k1 => assumption); (case k2 => assumption); (case k3 => assumption); (case k4 => assumption); (case k5 => assumption);
  (case k6 => k_is); (case k7 => k_is); (case k8 => first | (simp only [recursionLimit]; omega) | ktr_room); (case k9 => first | exact BindsTo.of_eq rfl | exact binds_K (by k_in) rfl (by k_is) rfl rfl rfl); (case c5 => decide); (case kB => exact locs rfl); (case c2 => exact rfl); (case c3 => exact rfl); (case c4 => exact rfl)))
local macro_rules | `(tactic| walk_at "subscriptTail") => `(tactic| ((with_reducible show wpAny _ _ (subscriptTail _ _ (Value.ref 58) (Value.int _ _)) _ _ _); k_dflt (refine' item58 ?F ?X ?h ?_; (case F => k_asm); (case X => k_asm); (case h => assumption)); intro t'))
local macro_rules | `(tactic| walk_at "subscriptTail") => `(tactic| ((with_reducible show wpAny _ _ (subscriptTail _ _ (Value.ref 57) (Value.int _ _)) _ _ _); k_dflt (refine' item57 ?F ?X ?h ?_; (case F => k_asm); (case X => k_asm); (case h => assumption)); intro t'))
local macro_rules | `(tactic| walk_at "compareOp NotIn int ref") => `(tactic| ((with_reducible show wpAny _ _ (compareOp CmpOp.NotIn (Value.int _ _) (Value.ref 58)) _ _ _); k_dflt (refine' notin58 ?F ?X ?_; (case F => k_asm); (case X => k_asm))))
local macro_rules | `(tactic| walk_at "compareOp NotIn int ref") => `(tactic| ((with_reducible show wpAny _ _ (compareOp CmpOp.NotIn (Value.int _ _) (Value.ref 57)) _ _ _); k_dflt (refine' notin57 ?F ?X ?_; (case F => k_asm); (case X => k_asm))))
local macro_rules | `(tactic| walk_at "binaryOp LShift int int") => `(tactic| (refine lshift_int_small (by decide) (by decide) (by omega) ?_))
local macro_rules | `(tactic| walk_at "call builtin:_struct.pack") => `(tactic| ((with_reducible show wpAny _ _ (call (Value.builtin _) [Value.str _ _, Value.int _ _]) _ _ _); k_dflt (first | (refine' pack_B ?h0 ?h1 ?_; (case h0 => omega); (case h1 => omega)) | (refine' pack_q ?h0 ?h1 ?_; (case h0 => omega); (case h1 => omega))); intro t'))
local macro_rules | `(tactic| ktr_rel) => `(tactic| exact back_led (by assumption) (by assumption) (by assumption) (by assumption) (by assumption) (fun p hp => .inr hp))
local macro_rules | `(tactic| ktr_unf) => `(tactic| first | omega | ((try dsimp only [Around.deeper, Around.in1, Around.mark]); (try simp only [dU, uU]); (try dsimp only [ktrTop, Around.deeper, Around.in1, Around.mark]); omega))
local macro_rules | `(tactic| k_enter) => `(tactic| (ktr_enter; intro g' L' h' kg' lL' FG' F' N' B' X' T'; (try dsimp only); (try k_fold)))
local macro_rules | `(tactic| walk_at "call ref") => `(tactic| (k_here; k_dflt (refine' call_clsK ?k1 ?k2 ?k3 ?k4 ?k5 ?k6 ?_; (case k1 => k_asm); (case k2 => k_asm); (case k3 => k_asm); (case k4 => k_is); (case k5 => k_is); (case k6 => k_is); k_whole; intro x' d' h' x1 l1 l2 F' N'; (try ((have l9 := news_lt (by assumption) l1); (k_lt l9))); (try k_lt2 l1); (try k_lt2 l2); (try k_sweep); k_enter)))

/-- the number that octets write -/
def readI (ks : List Int) : Int := ks.foldl (fun n o => n * 256 + o) 0
theorem readI_app (ks : List Int) : ∀ (ls : List Int) (n : Int), ls.foldl (fun n o => n * 256 + o) n = n * 256 ^ ls.length + readI ls := fun ls => by
  induction ls with
  | nil => intro n; simp [readI]
  | cons a r ih =>
    intro n
    show List.foldl _ (n * 256 + a) r = _
    rw [ih]
    have : readI (a :: r) = a * 256 ^ r.length + readI r := by
      show List.foldl _ (0 * 256 + a) r = _
      rw [ih]; simp
    rw [this, List.length_cons, Int.pow_succ, Int.add_mul, Int.mul_assoc, Int.mul_comm 256, Int.add_assoc]
theorem readI_cons (a : Int) (r : List Int) : readI (a :: r) = a * 256 ^ r.length + readI r := by
  show List.foldl _ (0 * 256 + a) r = _
  rw [readI_app []]; simp
theorem readI_bnd : ∀ {ks : List Int}, (∀ k ∈ ks, 0 ≤ k ∧ k < 256) → 0 ≤ readI ks ∧ readI ks < 256 ^ ks.length
  | [], _ => by simp [readI]
  | a :: r, h => by
    obtain ⟨h1, h2⟩ := readI_bnd (ks := r) fun k hk => h k (.tail _ hk)
    obtain ⟨h3, h4⟩ := h a (.head _)
    have hp : (0 : Int) < 256 ^ r.length := Int.pow_pos (by decide)
    rw [readI_cons, List.length_cons, Int.pow_succ]
    have h5 : 0 ≤ a * 256 ^ r.length := Int.mul_nonneg h3 (Int.le_of_lt hp)
    have h6 : a * 256 ^ r.length ≤ 255 * 256 ^ r.length := Int.mul_le_mul_of_nonneg_right (by omega) (Int.le_of_lt hp)
    omega
theorem readI_rep (z : Nat) (ks : List Int) : readI (List.replicate z 0 ++ ks) = readI ks := by
  induction z with
  | zero => rfl
  | succ n ih => rw [List.replicate_succ, List.cons_append, readI_cons, ih]; simp
theorem natOf_readI (b : Array UInt8) : ((Builtin.Struct.natOf true b : Nat) : Int) = readI (KBw.bInts b) := by
  unfold Builtin.Struct.natOf Builtin.Memoryview.littleEndian
  rw [if_pos rfl, Array.foldr_reverse, ← Array.foldl_toList]
  have : ∀ (l : List UInt8) (n : Nat), ((l.foldl (fun n c => n * 256 + c.toNat) n : Nat) : Int) = (l.map fun c => (c.toNat : Int)).foldl (fun n o => n * 256 + o) (n : Int) := fun l => by
    induction l with
    | nil => intro n; rfl
    | cons a r ih =>
      intro n
      rw [List.foldl_cons, ih, List.map_cons, List.foldl_cons, Int.natCast_add, Int.natCast_mul]; rfl
  exact this _ 0
section
variable {w : World} {A₀ : Around} {s : Shared} {base h₀ : Heap} {outer : List Env} {L : Addr} {m : Str → Option Value} {mean : ExcName → Option Value} {mg mb : Str → Option Value}
  {Q E : Value → Shared → Prop} {dp un : Nat} {gd : Option (List Code)} {cn : Str} {cs : Scope} {a : Addr} {ccd : Value} {cl : List (Str × Addr)}

theorem read_ok {b : Array UInt8} {ks : List Int} {t : Tok} (B : Below A₀ base outer h₀) (F : Fr h₀ L s.heap m) (X : (hd.heap_39 w.params).In h₀) (T : Top hd.view_39 LO mean mg mb h₀)
   (hke : cs.kind = .function) (hdp : dp + 10 < 1000) (hun : un + 100 < 9900) (hb : KBw.bInts b = ks)
   (hQ : ∀ h' t' tk', Back h₀ L m [] s.heap h' → Q (.int (readI ks) t') { s with heap := h', toks := tk' }) :
   wpAny (model PySem.Challenge.rw_eh5030_01.row.prog w) (ktrTop dp un gd cn cs L a ccd cl outer) (call (.ref 313) [.bytes b t] []) Q E s := by
  refine wpAny_call ?_
  have N : News h₀ L s.heap [] := News.nil
  k_dflt ktr_enter
  have hN := gets N
  intro g L' h₁ kg lL FG F N B X T
  (try dsimp only); (try k_fold)
  k_steps
  exact hQ _ _ _ (by ktr_rel)
end
end Mine
namespace Mine
open PySem PySem.Calls PySem.Spec
theorem rs_H1 : True := by w_top off; trivial
local macro_rules | `(tactic| ktr_enter) => `(tactic| (
  refine' enterK ?k1 ?k2 ?k3 ?k4 ?k5 ?kA ?kF ?kK ?k6 ?k7 ?k8 ?k9 ?kB ?_ ?c5 ?c2 ?c3 ?c4;
  (case kA => exact rfl); (case kF => exact rfl); (case kK => first | assumption | exact rfl); (case k1 => assumption); (case k2 => assumption); (case k3 => assumption); (case k4 => assumption); (case k5 => assumption);
  (case k6 => k_is); (case k7 => k_is); (case k8 => first | (simp only [recursionLimit]; omega) | ktr_room); (case k9 => first | exact BindsTo.of_eq rfl | exact binds_K (by k_in) rfl (by k_is) rfl rfl rfl); (case c5 => decide); (case kB => exact locs rfl); (case c2 => exact rfl); (case c3 => exact rfl); (case c4 => exact rfl)))
local macro_rules | `(tactic| walk_at "subscriptTail") => `(tactic| ((with_reducible show wpAny _ _ (subscriptTail _ _ (Value.ref 58) (Value.int _ _)) _ _ _); k_dflt (refine' item58 ?F ?X ?h ?_; (case F => k_asm); (case X => k_asm); (case h => assumption)); intro t'))
local macro_rules | `(tactic| walk_at "subscriptTail") => `(tactic| ((with_reducible show wpAny _ _ (subscriptTail _ _ (Value.ref 57) (Value.int _ _)) _ _ _); k_dflt (refine' item57 ?F ?X ?h ?_; (case F => k_asm); (case X => k_asm); (case h => assumption)); intro t'))
local macro_rules | `(tactic| walk_at "compareOp NotIn int ref") => `(tactic| ((with_reducible show wpAny _ _ (compareOp CmpOp.NotIn (Value.int _ _) (Value.ref 58)) _ _ _); k_dflt (refine' notin58 ?F ?X ?_; (case F => k_asm); (case X => k_asm))))
local macro_rules | `(tactic| walk_at "compareOp NotIn int ref") => `(tactic| ((with_reducible show wpAny _ _ (compareOp CmpOp.NotIn (Value.int _ _) (Value.ref 57)) _ _ _); k_dflt (refine' notin57 ?F ?X ?_; (case F => k_asm); (case X => k_asm))))
local macro_rules | `(tactic| walk_at "binaryOp LShift int int") => `(tactic| (refine lshift_int_small (by decide) (by decide) (by omega) ?_))
local macro_rules | `(tactic| walk_at "call builtin:_struct.pack") => `(tactic| ((with_reducible show wpAny _ _ (call (Value.builtin _) [Value.str _ _, Value.int _ _]) _ _ _); k_dflt (first | (refine' pack_B ?h0 ?h1 ?_; (case h0 => omega); (case h1 => omega)) | (refine' pack_q ?h0 ?h1 ?_; (case h0 => omega); (case h1 => omega))); intro t'))
local macro_rules | `(tactic| ktr_rel) => `(tactic| exact back_led (by assumption) (by assumption) (by assumption) (by assumption) (by assumption) (fun p hp => .inr hp))
local macro_rules | `(tactic| ktr_unf) => `(tactic| first | omega | ((try dsimp only [Around.deeper, Around.in1, Around.mark]); (try simp only [dU, uU]); (try dsimp only [ktrTop, Around.deeper, Around.in1, Around.mark]); omega))
local macro_rules | `(tactic| k_enter) => `(tactic| (ktr_enter; intro g' L' h' kg' lL' FG' F' N' B' X' T'; (try dsimp only); (try k_fold)))
local macro_rules | `(tactic| walk_at "call ref") => `(tactic| (k_here; k_dflt (refine' call_clsK ?k1 ?k2 ?k3 ?k4 ?k5 ?k6 ?_; (case k1 => k_asm); (case k2 => k_asm); (case k3 => k_asm); (case k4 => k_is); (case k5 => k_is); (case k6 => k_is); k_whole; intro x' d' h' x1 l1 l2 F' N'; (try ((have l9 := news_lt (by assumption) l1); (k_lt l9))); (try k_lt2 l1); (try k_lt2 l2); (try k_sweep); k_enter)))

local macro_rules | `(tactic| walk_at "getMethod ref") => `(tactic| ((with_reducible show wpAny _ _ (getMethod (Value.ref 57) (Str.ofString "keys") _) _ _ _); k_dflt (refine' getKeys (D := D8) ?K ?F ?_; (case K => exact map57 (by k_asm)); (case F => k_asm))))
local macro_rules | `(tactic| walk_at "getMethod ref") => `(tactic| ((with_reducible show wpAny _ _ (getMethod (Value.ref 58) (Str.ofString "keys") _) _ _ _); k_dflt (refine' getKeys (D := D8) ?K ?F ?_; (case K => exact map58 (by k_asm)); (case F => k_asm))))
local macro_rules | `(tactic| walk_at "call builtin:dict.keys") => `(tactic| ((with_reducible show wpAny _ _ (call (Value.builtin "dict.keys") [Value.ref 57]) _ _ _); k_dflt (refine' callKeys (D := D8) ?K ?F ?N ?_; (case K => exact map57 (by k_asm)); (case F => k_asm); (case N => k_asm)); intro v9 h9 F9 N9 l9; (try k_lt l9); (try k_sweep)))
local macro_rules | `(tactic| walk_at "call builtin:dict.keys") => `(tactic| ((with_reducible show wpAny _ _ (call (Value.builtin "dict.keys") [Value.ref 58]) _ _ _); k_dflt (refine' callKeys (D := D8) ?K ?F ?N ?_; (case K => exact map58 (by k_asm)); (case F => k_asm); (case N => k_asm)); intro v9 h9 F9 N9 l9; (try k_lt l9); (try k_sweep)))
local macro_rules | `(tactic| walk_at "call type:list") => `(tactic| ((with_reducible show wpAny _ _ (call (Value.type _) [Value.ref _]) _ _ _); k_dflt (first | (refine' listKeys (a := 57) ?K ?hh ?F ?N ?hv ?_; (case K => exact map57 (by k_asm)); (case hh => exact rfl); (case F => k_asm); (case N => k_asm); (case hv => k_mem)) | (refine' listKeys (a := 58) ?K ?hh ?F ?N ?hv ?_; (case K => exact map58 (by k_asm)); (case hh => exact rfl); (case F => k_asm); (case N => k_asm); (case hv => k_mem))); intro B9 c9 h9 tk9 t91 t92 t93 t94 t95 t96 t97 t98 F9 N9 l9; (try k_lt l9); (try k_sweep)))
local macro_rules | `(tactic| walk_at "binaryOp Mod str ref") => `(tactic| (k_dflt (first | (refine' modL (Y := F1) ?e meetsL ?hg ?hu ?F ?N ?hB ?_; (case e => decide +kernel); (case hg => exact rfl); (case hu => ((show _ < 9900); ktr_unf)); (case F => k_asm); (case N => k_asm); (case hB => k_mem)) | (refine' modL (Y := F2) ?e meetsL2 ?hg ?hu ?F ?N ?hB ?_; (case e => decide +kernel); (case hg => exact rfl); (case hu => ((show _ < 9900); ktr_unf)); (case F => k_asm); (case N => k_asm); (case hB => k_mem))); intro h9 tk9 T9 u9 F9 N9; (try k_sweep)))
local macro_rules | `(tactic| walk_at "leaving ref") => `(tactic| (first
  | (refine' leave_raiseS ?k1 ?k0 ?k2 ?k3 ?_; (case k0 => first | assumption | exact Heap.MadeExc.of (by assumption)); (case k2 => assumption); (case k1 => assumption); (case k3 => k_asm); k_whole; intro h' t' S' R' U'; (try dsimp only at S' R' U' ⊢))
  | (refine' leave_onS ?k1 ?k2 ?k3 ?k4 ?_; (case k3 => assumption); (case k2 => assumption); (case k1 => assumption); (case k4 => assumption); k_whole; intro h' S' R' U'; (try dsimp only at S' R' U' ⊢))))

/-- a location -/
structure Lc where
  (loc dloc al dal : Addr) (ad sz : Int) (low high : Option Int) (t0 t1 t2 t3 t4 ta ts tl th t5 t6 u v : Tok)
/-- an entry of a definition -/
structure En where
  (en den : Addr) (k : Tok) (l : Lc)
abbrev lcNews (w : World) (l : Lc) : List (Addr × Obj) :=
  [(l.loc, instObj 157 l.dloc), (l.dloc, dictOf (locEs w l.t0 l.t1 l.t2 l.t3 l.t4 (.int l.ad l.ta) (.int l.sz l.ts) (vO l.low l.tl) (vO l.high l.th) (.ref l.al)) 5),
   (l.al, instObj 82 l.dal), (l.dal, dictOf (alfEs w l.t5 l.t6 (.int (fA l.high l.sz) l.u) (.int (fA l.low l.ad) l.v)) 2)]
abbrev entNews (w : World) (e : En) : List (Addr × Obj) := (e.en, instObj 206 e.den) :: (e.den, dictOf [ent w (Str.ofString "memloc") e.k (.ref e.l.loc)] 1) :: lcNews w e.l
abbrev itsOf (es : List En) : Array Value := (es.map fun e => Value.ref e.en).toArray
abbrev didNews (w : World) (x dx le : Addr) (n : Nat) (t0 t1 : Tok) (es : List En) : List (Addr × Obj) :=
  (x, instObj 255 dx) :: (dx, dictOf (didEs w t0 t1 le (vD (!es.isEmpty))) 2) :: (le, listOf (itsOf es) n) :: es.flatMap (entNews w)
abbrev mk (l : Lc) : Int := fA l.high l.sz / 8 * 16 + fA l.low l.ad / 8
structure LcOk (l : Lc) : Prop where
  ha1 : 0 ≤ l.ad
  ha2 : l.ad < 2 ^ 56
  hs1 : 0 ≤ l.sz
  hs2 : l.sz < 2 ^ 56
  hf : e8 (fA l.low l.ad) = true
  hg : e8 (fA l.high l.sz) = true
abbrev Alike (es : List En) : Prop := ∀ e ∈ es, ∀ e' ∈ es, mk e.l = mk e'.l
theorem news_sub {h₀ h : Heap} {L : Addr} {a b : List (Addr × Obj)} (N : News h₀ L h a) (x : ∀ p ∈ b, p ∈ a) : News h₀ L h b := fun p hp => N p (x p hp)
theorem news2 {h₀ h : Heap} {L : Addr} {news : List (Addr × Obj)} {a b : Addr × Obj} (N : News h₀ L h news) (x : a ∈ news) (y : b ∈ news) : News h₀ L h [a, b] := List.forall_mem_cons.mpr ⟨N _ x, List.forall_mem_cons.mpr ⟨N _ y, List.forall_mem_nil _⟩⟩
theorem ent_mem {w : World} {es : List En} {e : En} (he : e ∈ es) : ∀ p ∈ entNews w e, p ∈ es.flatMap (entNews w) := fun _ hp => List.mem_flatMap.mpr ⟨e, he, hp⟩
theorem flown_ofN {base g h h' : Heap} {l : List Env} {e : Addr} {news news' : List (Addr × Obj)} (k : KeptA (news.map (·.1)) h g) (N : ∀ p ∈ news, h.get? p.1 = some p.2) (U : g.UpToSlots h') (R : RaisedSN base g l e (.type "ValueError") news' h') (sub : ∀ p ∈ news, p ∈ news') : Flown base l h e h' := by
  obtain ⟨B, a0, hB, hBG, hl, hfl⟩ := R
  have key : ∀ b o, h.get? b = some o → (g.get? b = some o ∨ (b, o) ∈ news) := fun b o hb => by
    by_cases hm : b ∈ news.map (·.1)
    · obtain ⟨p, hp, rfl⟩ := List.mem_map.mp hm
      rw [N p hp] at hb
      cases hb
      exact .inr hp
    · exact .inl (k b o hb hm)
  refine ⟨fun b o hb hn => ?_, B, a0, hB, (fun b o hb hf => ?_), (fun q hq => nomatch hq), hfl⟩
  · rcases key b o hb with q | q
    · exact U b o q hn
    · exact ⟨o.slots, hfl.1 _ _ (hl _ (sub _ q)).1⟩
  · rcases key b o hb with q | q
    · exact hBG b o q hf
    · exact (hl _ (sub _ q)).1
theorem news_drop {h₀ h : Heap} {L : Addr} {news : List (Addr × Obj)} (k : Nat) (N : News h₀ L h news) : News h₀ L h (news.drop k) := news_sub N fun _ hp => List.mem_of_mem_drop hp
theorem mk_bnd {l : Lc} (h : LcOk l) : 17 ≤ mk l ∧ mk l ≤ 136 := by
  have h1 := e8_bnd h.hf
  have h2 := e8_bnd h.hg
  show 17 ≤ fA l.high l.sz / 8 * 16 + fA l.low l.ad / 8 ∧ fA l.high l.sz / 8 * 16 + fA l.low l.ad / 8 ≤ 136
  omega
theorem u8_inj {x y : Int} (h1 : 0 ≤ x) (h2 : x < 256) (h3 : 0 ≤ y) (h4 : y < 256) (e : x.toNat.toUInt8 = y.toNat.toUInt8) : x = y := by
  have e1 : x.toNat.toUInt8.toNat = y.toNat.toUInt8.toNat := by rw [e]
  have hx := PySem.W.byte_back h1 h2
  have hy := PySem.W.byte_back h3 h4
  omega
theorem byte_eq {a b : Lc} (ha : LcOk a) (hb : LcOk b) (h : (#[(mk a).toNat.toUInt8].toList != #[(mk b).toNat.toUInt8].toList) = false) : mk a = mk b := by
  have h1 := mk_bnd ha
  have h2 := mk_bnd hb
  have e : #[(mk a).toNat.toUInt8].toList = #[(mk b).toNat.toUInt8].toList := by simpa using h
  exact u8_inj (by omega) (by omega) (by omega) (by omega) (List.cons.inj e).1
theorem byte_ne {a b : Lc} (_ : LcOk a) (_ : LcOk b) (e : mk a = mk b) (h : (#[(mk a).toNat.toUInt8].toList != #[(mk b).toNat.toUInt8].toList) = true) : False := by
  rw [e] at h
  simp at h
local macro_rules | `(tactic| walk_at "call ref") => `(tactic| ((try dsimp only [List.cons_append, List.nil_append]); (with_reducible show wpAny _ _ (call (Value.ref 238) [Value.ref _]) _ _ _); k_dflt (refine' isby_ok ?B ?F ?X ?T ?hk ?hd ?hu ?N ?_; (case B => k_asm); (case F => k_asm); (case X => k_asm); (case T => k_asm); (case hk => first | exact rfl | assumption); (case hd => ktr_unf); (case hu => ktr_unf); (case N => exact news2 (by k_asm) (by k_mem) (by k_mem))); intro h9 tk9 K9; (have N9 := K9.news0 (by assumption)); (have F9 := K9.fr)))
local macro_rules | `(tactic| walk_at "call ref") => `(tactic| ((try dsimp only [List.cons_append, List.nil_append]); (with_reducible show wpAny _ _ (call (Value.ref 79) [Value.ref _]) _ _ _); k_dflt (refine' byte_ok ?B ?F ?X ?T ?hk ?hd ?hu ?N ?h1 ?h2 ?_; (case B => k_asm); (case F => k_asm); (case X => k_asm); (case T => k_asm); (case hk => first | exact rfl | assumption); (case hd => ktr_unf); (case hu => ktr_unf); (case N => exact news2 (by k_asm) (by k_mem) (by k_mem)); (case h1 => assumption); (case h2 => assumption)); intro h9 t9 tk9 K9; (have N9 := K9.news0 (by assumption)); (have F9 := K9.fr)))
local macro_rules | `(tactic| walk_at "exec For") => `(tactic| refine Stop.mk ?_)
local macro_rules | `(tactic| walk_at "eval Name") => `(tactic| (k_dflt (refine' ld ?k1 ?k2 ?_; (case k1 => k_asm); (case k2 => first | assumption | exact rfl | ((simp (decide := true) only [↓reduceIte]); assumption)))))
theorem ln {M : Model} {A : Around} {E Q : Value → Shared → Prop} {s : Shared} {name : Str} {scope : Scope} {a L : Addr} {cd : Value} {h₀ : Heap} {m : Str → Option Value} {x : Str} {v : Value} (F : Fr h₀ L s.heap m) (hv : m x = some v) (h : Q v s)
    (hk : scope.kind = .function := by rfl) (hl : (envOf name scope L a cd).kindOf x = some .local := by rfl) : wpAny M A (loadName (envOf name scope L a cd) x) Q E s := wpAny_loadName_local hk hl F.ns hv h
local macro_rules | `(tactic| walk_at "loadName") => `(tactic| (k_dflt (refine' ln ?k1 ?k2 ?_; (case k1 => k_asm); (case k2 => first | assumption | exact rfl | ((simp (decide := true) only [↓reduceIte]); assumption)))))
section
variable {w : World} {A₀ : Around} {s : Shared} {base h₀ : Heap} {outer : List Env} {L : Addr} {m : Str → Option Value} {mean : ExcName → Option Value} {mg mb : Str → Option Value}
  {Q E : Value → Shared → Prop} {dp un : Nat} {gd : Option (List Code)} {cn : Str} {cs : Scope} {a : Addr} {ccd : Value} {cl : List (Str × Addr)}

theorem get_alfid_ok {x dx le : Addr} {es : List En} {n : Nat} {t0 t1 : Tok} (B : Below A₀ base outer h₀) (F : Fr h₀ L s.heap m) (X : (hd.heap_39 w.params).In h₀) (T : Top hd.view_39 LO mean mg mb h₀)
   (hke : cs.kind = .function) (hdp : dp + 40 < 1000) (hun : un + 400 < 9900)
   (N : News h₀ L s.heap (didNews w x dx le n t0 t1 es)) (hok : ∀ e ∈ es, LcOk e.l)
   (hQ : ∀ e rest, es = e :: rest → Alike es → ∀ h' tk', Back h₀ L m [] s.heap h' → Q (.ref e.l.al) { s with heap := h', toks := tk' })
   (hE : ¬ (es ≠ [] ∧ Alike es) → ∀ e h' tk', Flown base (envX cn cs L a ccd cl :: outer) s.heap e h' → E (.ref e) { s with heap := h', toks := tk' }) :
   wpAny (model PySem.Challenge.rw_eh5030_01.row.prog w) (ktrTop dp un (some []) cn cs L a ccd cl outer) (call (.ref 245) [.ref x] []) Q E s := by
  refine wpAny_call ?_
  k_dflt ktr_enter
  have hN := gets N
  intro g L' h₁ kg lL FG F N B X T
  (try dsimp only); (try k_fold)
  k_steps
  · refine' hE ?c1 _ _ _ (flown_ofN kg hN ?u1 (RaisedS.toSN ?r1) ?s1)
    case r1 => assumption
    case u1 => assumption
    case s1 => exact fun p hp => hp
    case c1 => exact fun z => z.1 (List.isEmpty_iff.mp (by assumption))
  · have hne : es.isEmpty = false := by assumption
    refine forList (L := L') rfl (by assumption) (by assumption) (.tail _ (.tail _ (.head _))) rfl (fun i m₁ => m₁ (Str.ofString "self") = some (.ref x) ∧ ((i = 0 ∧ m₁ (Str.ofString "alfid") = some .none) ∨
      ∃ e rest, es = e :: rest ∧ m₁ (Str.ofString "alfid") = some (.ref e.l.al) ∧ ∀ j, j < i → ∀ e', es[j]? = some e' → mk e'.l = mk e.l)) ⟨rfl, .inl ⟨rfl, rfl⟩⟩ ?step ?done
    case step =>
      intro i v m₁ h₂ tk₂ own hi hv hJ F₂ N₂
      obtain ⟨hself, hJ⟩ := hJ
      obtain ⟨e', he', rfl⟩ : ∃ e', es[i]? = some e' ∧ v = .ref e'.en := by
        simp only [List.getElem?_toArray, List.getElem?_map] at hv
        obtain ⟨e', h1, h2⟩ := Option.map_eq_some_iff.mp hv
        exact ⟨e', h1, h2.symm⟩
      have hm' : e' ∈ es := List.mem_of_getElem? he'
      have ok' := hok _ hm'
      have hf' := ok'.hf
      have hg' := ok'.hg
      rcases hJ with ⟨rfl, hal⟩ | ⟨e, rest, hes, hal, hmk⟩
      · have N₃ := news_app (news_sub N₂ (fun p hp => List.mem_append_right _ (.tail _ (.tail _ (.tail _ (ent_mem hm' p hp)))))) N₂
        simp only [List.cons_append, List.nil_append] at N₃
        k_steps
        refine ⟨.inl rfl, _, _, _, rfl, by assumption, news_drop 6 (by assumption), (by (simp (decide := true) only [↓reduceIte]); assumption), .inr ?_⟩
        cases es with
        | nil => cases he'
        | cons e0 r0 =>
          obtain rfl : e0 = e' := by simpa using he'
          exact ⟨e0, r0, rfl, (by simp (decide := true) only [↓reduceIte]), fun j hj e2 h2 => by
            obtain rfl : j = 0 := by omega
            obtain rfl : e0 = e2 := by simpa using h2
            rfl⟩
      · have hm : e ∈ es := hes ▸ List.mem_cons_self
        have ok := hok _ hm
        have hf := ok.hf
        have hg := ok.hg
        have N₃ := news_app (news_sub N₂ (fun p hp => List.mem_append_right _ (.tail _ (.tail _ (.tail _ (ent_mem hm' p hp)))))) (news_app (news_sub N₂ (fun p hp => List.mem_append_right _ (.tail _ (.tail _ (.tail _ (ent_mem hm p hp)))))) N₂)
        simp only [List.cons_append, List.nil_append] at N₃
        k_steps
        · refine' hE ?c1 _ _ _ (flown_ofN kg hN ?u1 (RaisedS.toSN ?r1) ?s1)
          case r1 => assumption
          case u1 => assumption
          case s1 => exact fun p hp => List.mem_append_right (_ :: _ :: _ :: _ :: _ :: _ :: _ :: _ :: _ :: _ :: _ :: _ :: own) hp
          case c1 => exact fun z => byte_ne ok ok' (z.2 e hm e' hm') (by assumption)
        · refine ⟨.inl rfl, _, _, _, rfl, by assumption, news_drop 12 (by assumption), (by (simp (decide := true) only [↓reduceIte]); assumption), .inr ⟨e, rest, hes, (by (simp (decide := true) only [↓reduceIte]); assumption), fun j hj e2 h2 => ?_⟩⟩
          rcases Nat.lt_succ_iff_lt_or_eq.mp hj with q | rfl
          · exact hmk j q e2 h2
          · obtain rfl : e' = e2 := Option.some.inj (he'.symm.trans h2)
            exact (byte_eq ok ok' (by assumption)).symm
    case done =>
      intro h₂ tk₂ m₂ F₂ N₂ hJ
      obtain ⟨hself, hJ⟩ := hJ
      rcases hJ with ⟨h0, _⟩ | ⟨e, rest, hes, hal, hmk⟩
      · exfalso
        cases es with
        | nil => cases hne
        | cons e r => simp at h0
      · have hsz : (itsOf es).size = es.length := by simp
        have hall : ∀ e2 ∈ es, mk e2.l = mk e.l := fun e2 h2 => by
          obtain ⟨j, hj, hje⟩ := List.mem_iff_getElem.mp h2
          exact hmk j (by omega) e2 (List.getElem?_eq_some_iff.mpr ⟨hj, hje⟩)
        k_steps
        exact hQ e rest hes (fun e1 h1 e2 h2 => (hall e1 h1).trans (hall e2 h2).symm) _ _ (by ktr_rel)
end
end Mine
namespace Mine
open PySem PySem.Calls PySem.Spec
theorem rs_P1 : True := by w_top off; trivial
local macro_rules | `(tactic| walk_at "zz") => `(tactic| fail)
local macro_rules | `(tactic| walk_at "zz") => `(tactic| fail)
local macro_rules | `(tactic| walk_at "zz") => `(tactic| fail)
local macro_rules | `(tactic| walk_at "zz") => `(tactic| fail)
local macro_rules | `(tactic| walk_at "zz") => `(tactic| fail)
local macro_rules | `(tactic| walk_at "zz") => `(tactic| fail)
local macro_rules | `(tactic| walk_at "zz") => `(tactic| fail)
local macro_rules | `(tactic| walk_at "zz") => `(tactic| fail)
local macro_rules | `(tactic| walk_at "zz") => `(tactic| fail)
local macro_rules | `(tactic| walk_at "zz") => `(tactic| fail)
local macro_rules | `(tactic| walk_at "zz") => `(tactic| fail)
local macro_rules | `(tactic| walk_at "zz") => `(tactic| fail)
local macro_rules | `(tactic| walk_at "zz") => `(tactic| fail)
local macro_rules | `(tactic| ktr_enter) => `(tactic| (
  refine' enterK ?k1 ?k2 ?k3 ?k4 ?k5 ?kA ?kF ?kK ?k6 ?k7 ?k8 ?k9 ?kB ?_ ?c5 ?c2 ?c3 ?c4;
  (case kA => exact rfl); (case kF => exact rfl); (case kK => first | assumption | exact rfl); (case k1 => assumption); (case k2 => assumption); (case k3 => assumption); (case k4 => assumption); (case k5 => assumption);
  (case k6 => k_is); (case k7 => k_is); (case k8 => first | (simp only [recursionLimit]; omega) | ktr_room); (case k9 => first | exact BindsTo.of_eq rfl | exact binds_K (by k_in) rfl (by k_is) rfl rfl rfl); (case c5 => decide); (case kB => exact locs rfl); (case c2 => exact rfl); (case c3 => exact rfl); (case c4 => exact rfl)))
local macro_rules | `(tactic| walk_at "subscriptTail") => `(tactic| ((with_reducible show wpAny _ _ (subscriptTail _ _ (Value.ref 58) (Value.int _ _)) _ _ _); k_dflt (refine' item58 ?F ?X ?h ?_; (case F => k_asm); (case X => k_asm); (case h => assumption)); intro t'))
local macro_rules | `(tactic| walk_at "subscriptTail") => `(tactic| ((with_reducible show wpAny _ _ (subscriptTail _ _ (Value.ref 57) (Value.int _ _)) _ _ _); k_dflt (refine' item57 ?F ?X ?h ?_; (case F => k_asm); (case X => k_asm); (case h => assumption)); intro t'))
local macro_rules | `(tactic| walk_at "compareOp NotIn int ref") => `(tactic| ((with_reducible show wpAny _ _ (compareOp CmpOp.NotIn (Value.int _ _) (Value.ref 58)) _ _ _); k_dflt (refine' notin58 ?F ?X ?_; (case F => k_asm); (case X => k_asm))))
local macro_rules | `(tactic| walk_at "compareOp NotIn int ref") => `(tactic| ((with_reducible show wpAny _ _ (compareOp CmpOp.NotIn (Value.int _ _) (Value.ref 57)) _ _ _); k_dflt (refine' notin57 ?F ?X ?_; (case F => k_asm); (case X => k_asm))))
local macro_rules | `(tactic| walk_at "binaryOp LShift int int") => `(tactic| (refine lshift_int_small (by decide) (by decide) (by omega) ?_))
local macro_rules | `(tactic| walk_at "call builtin:_struct.pack") => `(tactic| ((with_reducible show wpAny _ _ (call (Value.builtin _) [Value.str _ _, Value.int _ _]) _ _ _); k_dflt (first | (refine' pack_B ?h0 ?h1 ?_; (case h0 => omega); (case h1 => omega)) | (refine' pack_q ?h0 ?h1 ?_; (case h0 => omega); (case h1 => omega))); intro t'))
local macro_rules | `(tactic| ktr_rel) => `(tactic| exact back_led (by assumption) (by assumption) (by assumption) (by assumption) (by assumption) (fun p hp => .inr hp))
local macro_rules | `(tactic| ktr_unf) => `(tactic| first | omega | ((try dsimp only [Around.deeper, Around.in1, Around.mark]); (try simp only [dU, uU]); (try dsimp only [ktrTop, Around.deeper, Around.in1, Around.mark]); omega))
local macro_rules | `(tactic| k_enter) => `(tactic| (ktr_enter; intro g' L' h' kg' lL' FG' F' N' B' X' T'; (try dsimp only); (try k_fold)))
local macro_rules | `(tactic| walk_at "call ref") => `(tactic| (k_here; k_dflt (refine' call_clsK ?k1 ?k2 ?k3 ?k4 ?k5 ?k6 ?_; (case k1 => k_asm); (case k2 => k_asm); (case k3 => k_asm); (case k4 => k_is); (case k5 => k_is); (case k6 => k_is); k_whole; intro x' d' h' x1 l1 l2 F' N'; (try ((have l9 := news_lt (by assumption) l1); (k_lt l9))); (try k_lt2 l1); (try k_lt2 l2); (try k_sweep); k_enter)))

local macro_rules | `(tactic| k_handed) => `(tactic| exact handed_vO)
abbrev aI (l : Lc) : List Int := (KBw.bInts (be8 l.ad.toNat)).drop (8 - (fA l.low l.ad / 8).toNat)
abbrev mI (l : Lc) : List Int := (KBw.bInts (be8 l.sz.toNat)).drop (8 - (fA l.high l.sz / 8).toNat)
abbrev reqI (es : List En) : List Int := es.flatMap fun e => aI e.l ++ mI e.l
theorem news4 {h₀ h : Heap} {L : Addr} {news : List (Addr × Obj)} {a b c d : Addr × Obj} (N : News h₀ L h news) (x : a ∈ news) (y : b ∈ news) (z : c ∈ news) (u : d ∈ news) : News h₀ L h [a, b, c, d] :=
  List.forall_mem_cons.mpr ⟨N _ x, List.forall_mem_cons.mpr ⟨N _ y, List.forall_mem_cons.mpr ⟨N _ z, List.forall_mem_cons.mpr ⟨N _ u, List.forall_mem_nil _⟩⟩⟩⟩
local macro_rules | `(tactic| walk_at "call ref") => `(tactic| ((try dsimp only [List.cons_append, List.nil_append]); (with_reducible show wpAny _ _ (call (Value.ref 130) [Value.ref _]) _ _ _); k_dflt (refine' get_a_ok ?B ?F ?X ?T ?hk ?hd ?hu ?N ?h1 ?h2 ?h3 ?_; (case B => k_asm); (case F => k_asm); (case X => k_asm); (case T => k_asm); (case hk => first | exact rfl | assumption); (case hd => ktr_unf); (case hu => ktr_unf); (case N => exact news4 (by k_asm) (by k_mem) (by k_mem) (by k_mem) (by k_mem)); (case h1 => assumption); (case h2 => assumption); (case h3 => assumption)); intro b9 h9 t9 tk9 Hb9 K9; (have N9 := K9.news0 (by assumption)); (have F9 := K9.fr)))
local macro_rules | `(tactic| walk_at "call ref") => `(tactic| ((try dsimp only [List.cons_append, List.nil_append]); (with_reducible show wpAny _ _ (call (Value.ref 137) [Value.ref _]) _ _ _); k_dflt (refine' get_m_ok ?B ?F ?X ?T ?hk ?hd ?hu ?N ?h1 ?h2 ?h3 ?_; (case B => k_asm); (case F => k_asm); (case X => k_asm); (case T => k_asm); (case hk => first | exact rfl | assumption); (case hd => ktr_unf); (case hu => ktr_unf); (case N => exact news4 (by k_asm) (by k_mem) (by k_mem) (by k_mem) (by k_mem)); (case h1 => assumption); (case h2 => assumption); (case h3 => assumption)); intro b9 h9 t9 tk9 Hb9 K9; (have N9 := K9.news0 (by assumption)); (have F9 := K9.fr)))
local macro_rules | `(tactic| walk_at "call ref") => `(tactic| ((try dsimp only [List.cons_append, List.nil_append]); (with_reducible show wpAny _ _ (call (Value.ref 252) [Value.ref _]) _ _ _); k_dflt (refine' get_ok ?B ?F ?X ?T ?hk ?hd ?hu ?N ?_; (case B => k_asm); (case F => k_asm); (case X => k_asm); (case T => k_asm); (case hk => first | exact rfl | assumption); (case hd => ktr_unf); (case hu => ktr_unf); (case N => exact news2 (by k_asm) (by k_mem) (by k_mem))); intro h9 tk9 K9; (have N9 := K9.news0 (by assumption)); (have F9 := K9.fr)))
local macro_rules | `(tactic| walk_at "call ref") => `(tactic| ((try dsimp only [List.cons_append, List.nil_append]); (with_reducible show wpAny _ _ (call (Value.ref 79) [Value.ref _]) _ _ _); k_dflt (refine' byte_ok ?B ?F ?X ?T ?hk ?hd ?hu ?N ?h1 ?h2 ?_; (case B => k_asm); (case F => k_asm); (case X => k_asm); (case T => k_asm); (case hk => first | exact rfl | assumption); (case hd => ktr_unf); (case hu => ktr_unf); (case N => exact news2 (by k_asm) (by k_mem) (by k_mem)); (case h1 => assumption); (case h2 => assumption)); intro h9 t9 tk9 K9; (have N9 := K9.news0 (by assumption)); (have F9 := K9.fr)))
local macro_rules | `(tactic| walk_at "call ref") => `(tactic| ((with_reducible show wpAny _ _ (call (Value.ref 245) _ _) _ _ _); refine Stop.mk ?_))
local macro_rules | `(tactic| walk_at "eval Name") => `(tactic| (k_dflt (refine' ld ?k1 ?k2 ?_; (case k1 => k_asm); (case k2 => first | assumption | exact rfl | ((simp (decide := true) only [↓reduceIte]); assumption)))))
local macro_rules | `(tactic| walk_at "loadName") => `(tactic| (k_dflt (refine' ln ?k1 ?k2 ?_; (case k1 => k_asm); (case k2 => first | assumption | exact rfl | ((simp (decide := true) only [↓reduceIte]); assumption)))))
local macro_rules | `(tactic| walk_at "binaryOp Add bytes bytes") => `(tactic| (k_dflt (refine' KBa.add_K ?hb ?hc ?hz ?_; (case hb => assumption); (case hc => assumption); (case hz => (simp only [List.length_append, List.length_cons]; omega))); intro t9 k9 Hb9))
theorem aI_len (l : Lc) : (aI l).length ≤ 8 := by
  show (List.drop _ _).length ≤ 8
  rw [List.length_drop, KBw.ints_length, be8_size]; omega
theorem mI_len (l : Lc) : (mI l).length ≤ 8 := by
  show (List.drop _ _).length ≤ 8
  rw [List.length_drop, KBw.ints_length, be8_size]; omega
theorem reqI_len : ∀ es : List En, (reqI es).length ≤ 16 * es.length
  | [] => Nat.le_refl _
  | e :: r => by
    have h1 := reqI_len r
    have h2 := aI_len e.l
    have h3 := mI_len e.l
    have h4 : (reqI (e :: r)).length = (aI e.l).length + (mI e.l).length + (reqI r).length := by
      show (List.flatMap _ _).length = _
      rw [List.flatMap_cons, List.length_append, List.length_append]
    rw [h4, List.length_cons]; omega
section
variable {w : World} {A₀ : Around} {s : Shared} {base h₀ : Heap} {outer : List Env} {L : Addr} {m : Str → Option Value} {mean : ExcName → Option Value} {mg mb : Str → Option Value}
  {Q E : Value → Shared → Prop} {dp un : Nat} {gd : Option (List Code)} {cn : Str} {cs : Scope} {a : Addr} {ccd : Value} {cl : List (Str × Addr)}

theorem request_ok {x dx le : Addr} {es : List En} {e : En} {rest : List En} {n : Nat} {t0 t1 : Tok} (B : Below A₀ base outer h₀) (F : Fr h₀ L s.heap m) (X : (hd.heap_39 w.params).In h₀) (T : Top hd.view_39 LO mean mg mb h₀)
   (hke : cs.kind = .function) (hdp : dp + 50 < 1000) (hun : un + 500 < 9900)
   (N : News h₀ L s.heap (didNews w x dx le n t0 t1 es)) (hok : ∀ e ∈ es, LcOk e.l) (hes : es = e :: rest) (hal : Alike es) (hsz : es.length < 1000)
   (hQ : ∀ b h' t' tk', KBw.bInts b = mk e.l :: reqI es → Back h₀ L m [] s.heap h' → Q (.bytes b t') { s with heap := h', toks := tk' }) :
   wpAny (model PySem.Challenge.rw_eh5030_01.row.prog w) (ktrTop dp un (some []) cn cs L a ccd cl outer) (call (.ref 306) [.ref x] []) Q E s := by
  refine wpAny_call ?_
  k_dflt ktr_enter
  have hN := gets N
  intro g L' h₁ kg lL FG F N B X T
  (try dsimp only); (try k_fold)
  k_steps
  refine Stop.of ?_
  refine get_alfid_ok (es := es) (by assumption) (by assumption) (by assumption) (by assumption) rfl (by ktr_unf) (by ktr_unf) (by assumption) hok ?jQ ?jE
  case jE => exact fun z => absurd ⟨by rw [hes]; exact List.cons_ne_nil _ _, hal⟩ z
  intro e₁ r₁ h1 _ h9 tk9 K9
  obtain ⟨rfl, rfl⟩ : e = e₁ ∧ rest = r₁ := by rw [hes] at h1; exact ⟨(List.cons.inj h1).1, (List.cons.inj h1).2⟩
  have N9 := K9.news0 N
  have F9 := K9.fr
  have hm : e ∈ es := hes ▸ List.mem_cons_self
  have ok := hok _ hm
  have hf := ok.hf
  have hg := ok.hg
  have N3 := news_app (news_sub N9 (fun p hp => (.tail _ (.tail _ (.tail _ (ent_mem hm p hp)))))) N9
  simp only [List.cons_append, List.nil_append] at N3
  k_steps
  refine forList (J := fun i m₁ => ∃ b t, m₁ (Str.ofString "octets") = some (.bytes b t) ∧ KBw.bInts b = mk e.l :: reqI (es.take i)) (L := L') rfl (by assumption) (by assumption) (by k_mem) rfl ⟨_, _, rfl, ?b0⟩ ?step ?done
  case b0 =>
    show KBw.bInts #[(mk e.l).toNat.toUInt8] = [mk e.l]
    have := mk_bnd ok
    show [(((mk e.l).toNat.toUInt8.toNat : Nat) : Int)] = [mk e.l]
    rw [PySem.W.byte_back (by omega) (by omega)]
  case done =>
    rintro h₂ tk₂ m₂ F₂ N₂ ⟨b, t, hb, hbi⟩
    have hsz : (itsOf es).size = es.length := by simp
    simp only [hsz, List.take_length] at hbi
    k_steps
    exact hQ _ _ _ _ hbi (back_led kg hN (by assumption) F₂ (news_drop 6 N₂) (fun p hp => .inr hp))
  case step =>
    rintro i v m₁ h₂ tk₂ own hi hv ⟨b, t, hb, hbi⟩ F₂ N₂
    obtain ⟨e', he', rfl⟩ : ∃ e', es[i]? = some e' ∧ v = .ref e'.en := by
      simp only [List.getElem?_toArray, List.getElem?_map] at hv
      obtain ⟨e', h1, h2⟩ := Option.map_eq_some_iff.mp hv
      exact ⟨e', h1, h2.symm⟩
    have hm' : e' ∈ es := List.mem_of_getElem? he'
    have ok' := hok _ hm'
    have hf' := ok'.hf
    have hg' := ok'.hg
    have b1 := ok'.ha1
    have b2 : e'.l.ad < 2 ^ 63 := Int.lt_trans ok'.ha2 (by decide)
    have b3 := ok'.hs1
    have b4 : e'.l.sz < 2 ^ 63 := Int.lt_trans ok'.hs2 (by decide)
    have N₃ := news_app (news_sub N₂ (fun p hp => List.mem_append_right _ (List.mem_append_right (_ :: _ :: _ :: _ :: _ :: _ :: []) (.tail _ (.tail _ (.tail _ (ent_mem hm' p hp))))))) N₂
    simp only [List.cons_append, List.nil_append] at N₃
    have l1 : (reqI (es.take i)).length ≤ 16000 := Nat.le_trans (reqI_len _) (by rw [List.length_take]; omega)
    have l2 : ((KBw.bInts (be8 e'.l.ad.toNat)).drop (8 - (fA e'.l.low e'.l.ad / 8).toNat)).length ≤ 8 := aI_len _
    have l3 : ((KBw.bInts (be8 e'.l.sz.toNat)).drop (8 - (fA e'.l.high e'.l.sz / 8).toNat)).length ≤ 8 := mI_len _
    k_steps
    refine ⟨.inl rfl, _, _, _, rfl, by assumption, news_drop 6 (by assumption), _, _, rfl, ?_⟩
    have ht : reqI (es.take (i + 1)) = reqI (es.take i) ++ (aI e'.l ++ mI e'.l) := by
      have h1 : es.take (i + 1) = es.take i ++ [e'] := by rw [List.take_add_one, he']; rfl
      show List.flatMap _ _ = List.flatMap _ _ ++ _
      rw [h1, List.flatMap_append, List.flatMap_cons, List.flatMap_nil, List.append_nil]
    rw [ht, ← List.cons_append, ← List.append_assoc]
    assumption
end
end Mine
namespace Mine
open PySem PySem.Calls PySem.Spec
theorem rs_Q1 : True := by w_top off; trivial
local macro_rules | `(tactic| ktr_enter) => `(tactic| (
  refine' enterK ?k1 ?k2 ?k3 ?k4 ?k5 ?kA ?kF ?kK ?k6 ?k7 ?k8 ?k9 ?kB ?_ ?c5 ?c2 ?c3 ?c4;
  (case kA => exact rfl); (case kF => exact rfl); (case kK => first | assumption | exact rfl); (case k1 => assumption); (case k2 => assumption); (case k3 => assumption); (case k4 => assumption); (case k5 => assumption);
  (case k6 => k_is); (case k7 => k_is); (case k8 => first | (simp only [recursionLimit]; omega) | ktr_room); (case k9 => first | exact BindsTo.of_eq rfl | exact binds_K (by k_in) rfl (by k_is) rfl rfl rfl); (case c5 => decide); (case kB => exact locs rfl); (case c2 => exact rfl); (case c3 => exact rfl); (case c4 => exact rfl)))
local macro_rules | `(tactic| walk_at "subscriptTail") => `(tactic| ((with_reducible show wpAny _ _ (subscriptTail _ _ (Value.ref 58) (Value.int _ _)) _ _ _); k_dflt (refine' item58 ?F ?X ?h ?_; (case F => k_asm); (case X => k_asm); (case h => assumption)); intro t'))
local macro_rules | `(tactic| walk_at "subscriptTail") => `(tactic| ((with_reducible show wpAny _ _ (subscriptTail _ _ (Value.ref 57) (Value.int _ _)) _ _ _); k_dflt (refine' item57 ?F ?X ?h ?_; (case F => k_asm); (case X => k_asm); (case h => assumption)); intro t'))
local macro_rules | `(tactic| walk_at "compareOp NotIn int ref") => `(tactic| ((with_reducible show wpAny _ _ (compareOp CmpOp.NotIn (Value.int _ _) (Value.ref 58)) _ _ _); k_dflt (refine' notin58 ?F ?X ?_; (case F => k_asm); (case X => k_asm))))
local macro_rules | `(tactic| walk_at "compareOp NotIn int ref") => `(tactic| ((with_reducible show wpAny _ _ (compareOp CmpOp.NotIn (Value.int _ _) (Value.ref 57)) _ _ _); k_dflt (refine' notin57 ?F ?X ?_; (case F => k_asm); (case X => k_asm))))
local macro_rules | `(tactic| walk_at "binaryOp LShift int int") => `(tactic| (refine lshift_int_small (by decide) (by decide) (by omega) ?_))
local macro_rules | `(tactic| walk_at "call builtin:_struct.pack") => `(tactic| ((with_reducible show wpAny _ _ (call (Value.builtin _) [Value.str _ _, Value.int _ _]) _ _ _); k_dflt (first | (refine' pack_B ?h0 ?h1 ?_; (case h0 => omega); (case h1 => omega)) | (refine' pack_q ?h0 ?h1 ?_; (case h0 => omega); (case h1 => omega))); intro t'))
local macro_rules | `(tactic| ktr_rel) => `(tactic| exact back_led (by assumption) (by assumption) (by assumption) (by assumption) (by assumption) (fun p hp => .inr hp))
local macro_rules | `(tactic| ktr_unf) => `(tactic| first | omega | ((try dsimp only [Around.deeper, Around.in1, Around.mark]); (try simp only [dU, uU]); (try dsimp only [ktrTop, Around.deeper, Around.in1, Around.mark]); omega))
local macro_rules | `(tactic| k_enter) => `(tactic| (ktr_enter; intro g' L' h' kg' lL' FG' F' N' B' X' T'; (try dsimp only); (try k_fold)))
local macro_rules | `(tactic| walk_at "call ref") => `(tactic| (k_here; k_dflt (refine' call_clsK ?k1 ?k2 ?k3 ?k4 ?k5 ?k6 ?_; (case k1 => k_asm); (case k2 => k_asm); (case k3 => k_asm); (case k4 => k_is); (case k5 => k_is); (case k6 => k_is); k_whole; intro x' d' h' x1 l1 l2 F' N'; (try ((have l9 := news_lt (by assumption) l1); (k_lt l9))); (try k_lt2 l1); (try k_lt2 l2); (try k_sweep); k_enter)))

local macro_rules | `(tactic| walk_at "getMethod ref") => `(tactic| ((with_reducible show wpAny _ _ (getMethod (Value.ref 57) (Str.ofString "keys") _) _ _ _); k_dflt (refine' getKeys (D := D8) ?K ?F ?_; (case K => exact map57 (by k_asm)); (case F => k_asm))))
local macro_rules | `(tactic| walk_at "getMethod ref") => `(tactic| ((with_reducible show wpAny _ _ (getMethod (Value.ref 58) (Str.ofString "keys") _) _ _ _); k_dflt (refine' getKeys (D := D8) ?K ?F ?_; (case K => exact map58 (by k_asm)); (case F => k_asm))))
local macro_rules | `(tactic| walk_at "call builtin:dict.keys") => `(tactic| ((with_reducible show wpAny _ _ (call (Value.builtin "dict.keys") [Value.ref 57]) _ _ _); k_dflt (refine' callKeys (D := D8) ?K ?F ?N ?_; (case K => exact map57 (by k_asm)); (case F => k_asm); (case N => k_asm)); intro v9 h9 F9 N9 l9; (try k_lt l9); (try k_sweep)))
local macro_rules | `(tactic| walk_at "call builtin:dict.keys") => `(tactic| ((with_reducible show wpAny _ _ (call (Value.builtin "dict.keys") [Value.ref 58]) _ _ _); k_dflt (refine' callKeys (D := D8) ?K ?F ?N ?_; (case K => exact map58 (by k_asm)); (case F => k_asm); (case N => k_asm)); intro v9 h9 F9 N9 l9; (try k_lt l9); (try k_sweep)))
local macro_rules | `(tactic| walk_at "call type:list") => `(tactic| ((with_reducible show wpAny _ _ (call (Value.type _) [Value.ref _]) _ _ _); k_dflt (first | (refine' listKeys (a := 57) ?K ?hh ?F ?N ?hv ?_; (case K => exact map57 (by k_asm)); (case hh => exact rfl); (case F => k_asm); (case N => k_asm); (case hv => k_mem)) | (refine' listKeys (a := 58) ?K ?hh ?F ?N ?hv ?_; (case K => exact map58 (by k_asm)); (case hh => exact rfl); (case F => k_asm); (case N => k_asm); (case hv => k_mem))); intro B9 c9 h9 tk9 t91 t92 t93 t94 t95 t96 t97 t98 F9 N9 l9; (try k_lt l9); (try k_sweep)))
local macro_rules | `(tactic| walk_at "binaryOp Mod str ref") => `(tactic| (k_dflt (first | (refine' modL (Y := F1) ?e meetsL ?hg ?hu ?F ?N ?hB ?_; (case e => decide +kernel); (case hg => exact rfl); (case hu => ((show _ < 9900); ktr_unf)); (case F => k_asm); (case N => k_asm); (case hB => k_mem)) | (refine' modL (Y := F2) ?e meetsL2 ?hg ?hu ?F ?N ?hB ?_; (case e => decide +kernel); (case hg => exact rfl); (case hu => ((show _ < 9900); ktr_unf)); (case F => k_asm); (case N => k_asm); (case hB => k_mem))); intro h9 tk9 T9 u9 F9 N9; (try k_sweep)))
local macro_rules | `(tactic| walk_at "leaving ref") => `(tactic| (first
  | (refine' leave_raiseS ?k1 ?k0 ?k2 ?k3 ?_; (case k0 => first | assumption | exact Heap.MadeExc.of (by assumption)); (case k2 => assumption); (case k1 => assumption); (case k3 => k_asm); k_whole; intro h' t' S' R' U'; (try dsimp only at S' R' U' ⊢))
  | (refine' leave_onS ?k1 ?k2 ?k3 ?k4 ?_; (case k3 => assumption); (case k2 => assumption); (case k1 => assumption); (case k4 => assumption); k_whole; intro h' S' R' U'; (try dsimp only at S' R' U' ⊢))))

local macro_rules | `(tactic| k_handed) => `(tactic| exact handed_vO)
local macro_rules | `(tactic| walk_at "call ref") => `(tactic| ((try dsimp only [List.cons_append, List.nil_append]); (with_reducible show wpAny _ _ (call (Value.ref 82) [] _) _ _ _); k_dflt (refine' mkAlf_ok ?B ?F ?X ?T ?hk ?hd ?hu ?h1 ?h2 ?_; (case B => k_asm); (case F => k_asm); (case X => k_asm); (case T => k_asm); (case hk => first | exact rfl | assumption); (case hd => ktr_unf); (case hu => ktr_unf); (case h1 => assumption); (case h2 => assumption)); intro x9 dx9 ta9 tb9 h9 tk9 K9 sd9 sx9 NN9; (have l9 := news_lt (by assumption) sd9); (k_lt l9); (have N9 := news_app NN9 (K9.news0 (by assumption))); (simp only [List.cons_append, List.nil_append] at N9); (have F9 := K9.fr)))
theorem news_rot {h₀ h : Heap} {L : Addr} {a b c d : Addr × Obj} (N : News h₀ L h [a, b, c, d]) : News h₀ L h [c, d, a, b] := news4 N (.tail _ (.tail _ (.head _))) (.tail _ (.tail _ (.tail _ (.head _)))) (.head _) (.tail _ (.head _))
section
variable {w : World} {A₀ : Around} {s : Shared} {base h₀ : Heap} {outer : List Env} {L : Addr} {m : Str → Option Value} {mean : ExcName → Option Value} {mg mb : Str → Option Value}
  {Q E : Value → Shared → Prop} {dp un : Nat} {gd : Option (List Code)} {cn : Str} {cs : Scope} {a : Addr} {ccd : Value} {cl : List (Str × Addr)}

theorem mkLoc_kw {ad sz af mf : Int} {ta ts tl th : Tok} (B : Below A₀ base outer h₀) (F : Fr h₀ L s.heap m) (X : (hd.heap_39 w.params).In h₀) (T : Top hd.view_39 LO mean mg mb h₀)
   (hke : cs.kind = .function) (hdp : dp + 30 < 1000) (hun : un + 300 < 9900) (hl : e8 af = true) (hh : e8 mf = true)
   (hQ : ∀ l : Lc, l.ad = ad → l.sz = sz → l.low = some af → l.high = some mf → ∀ h' tk', Back h₀ L m [] s.heap h' → s.heap.objs.size ≤ l.dloc → l.dloc < l.loc → l.loc < l.dal → l.dal < l.al →
      News h₀ L h' (lcNews w l) → Q (.ref l.loc) { s with heap := h', toks := tk' }) :
   wpAny (model PySem.Challenge.rw_eh5030_01.row.prog w) (ktrTop dp un gd cn cs L a ccd cl outer) (call (.ref 157) [] [(Str.ofString "address", .int ad ta), (Str.ofString "memorysize", .int sz ts), (Str.ofString "address_format", .int af tl), (Str.ofString "memorysize_format", .int mf th)]) Q E s := by
  have N : News h₀ L s.heap [] := News.nil
  (try dsimp only); (try k_fold)
  k_steps
  refine' hQ ⟨_, _, _, _, ad, sz, some af, some mf, _, _, _, _, _, ta, ts, tl, th, _, _, _, _⟩ rfl rfl rfl rfl _ _ ?bk ?o1 ?o2 ?o3 ?o4 ?nn
  case nn => exact news_rot (by assumption)
  case o1 => dsimp only; omega
  case o2 => dsimp only; omega
  case o3 => dsimp only; (show @LT.lt Nat _ _ _); omega
  case o4 => dsimp only; (show @LT.lt Nat _ _ _); omega
  case bk => exact back_new (kept_ext (by assumption) (by assumption)) (by assumption) (by assumption) (by assumption) (List.forall_mem_cons.mpr ⟨.inl (none_of_size (by omega)), List.forall_mem_cons.mpr ⟨.inl (none_of_size (by assumption)), List.forall_mem_nil _⟩⟩)
end
section
variable {prog : Program} {w : World} {A : Around} {s : Shared} {Q E : Value → Shared → Prop} {h₀ : Heap} {L : Addr} {m : Str → Option Value} {news : List (Addr × Obj)}
theorem unpackI {b c : Array UInt8} {ks : List Int} {z : Nat} {t u : Tok} (hb : KBw.bInts b = List.replicate z 0 ++ ks) (hks : KBw.bInts c = ks) (hz : z + ks.length = 8) (h7 : ks.length ≤ 7) (F : Fr h₀ L s.heap m) (N : News h₀ L s.heap news)
   (h : ∀ x h' t' tk, Fr h₀ L h' m → News h₀ L h' ((x, { cls := .type "tuple", data := .seq #[.int (readI ks) t'] }) :: news) → Q (.ref x) { s with heap := h', toks := tk }) :
   wpAny (model prog w) A (call (.builtin "_struct.unpack") [.str (Str.ofString ">q") t, .bytes b u]) Q E s := by
  have h8 : b.size = 8 := by rw [← KBw.ints_length, hb, List.length_append, List.length_replicate]; exact hz
  have hx : b.extract 0 8 = b := by rw [← h8]; exact Array.extract_size
  have hn := natOf_readI b
  rw [hb, readI_rep] at hn
  have hbd := readI_bnd (ks := ks) (fun k hk => KBw.ints_in (b := c) (by rw [hks]; exact hk))
  refine unpack_q h8 F N ?_ ?_
  · rw [hx]
    have h9 : (256 : Nat) ^ ks.length ≤ 256 ^ 7 := Nat.pow_le_pow_right (by decide) h7
    have h10 : (256 : Int) ^ ks.length = ((256 ^ ks.length : Nat) : Int) := by simp
    omega
  · intro x h' t' tk F' N'
    rw [hx, hn] at N'
    exact h x h' t' tk F' N'
end
end Mine
namespace Mine
open PySem PySem.Calls PySem.Spec
theorem rs_Q2 : True := by w_top off; trivial
local macro_rules | `(tactic| ktr_enter) => `(tactic| (
  refine' enterK ?k1 ?k2 ?k3 ?k4 ?k5 ?kA ?kF ?kK ?k6 ?k7 ?k8 ?k9 ?kB ?_ ?c5 ?c2 ?c3 ?c4;
  (case kA => exact rfl); (case kF => exact rfl); (case kK => first | assumption | exact rfl); (case k1 => assumption); (case k2 => assumption); (case k3 => assumption); (case k4 => assumption); (case k5 => assumption);
  (case k6 => k_is); (case k7 => k_is); (case k8 => first | (simp only [recursionLimit]; omega) | ktr_room); (case k9 => first | exact BindsTo.of_eq rfl | exact binds_K (by k_in) rfl (by k_is) rfl rfl rfl); (case c5 => decide); (case kB => exact locs rfl); (case c2 => exact rfl); (case c3 => exact rfl); (case c4 => exact rfl)))
local macro_rules | `(tactic| walk_at "subscriptTail") => `(tactic| ((with_reducible show wpAny _ _ (subscriptTail _ _ (Value.ref 58) (Value.int _ _)) _ _ _); k_dflt (refine' item58 ?F ?X ?h ?_; (case F => k_asm); (case X => k_asm); (case h => assumption)); intro t'))
local macro_rules | `(tactic| walk_at "subscriptTail") => `(tactic| ((with_reducible show wpAny _ _ (subscriptTail _ _ (Value.ref 57) (Value.int _ _)) _ _ _); k_dflt (refine' item57 ?F ?X ?h ?_; (case F => k_asm); (case X => k_asm); (case h => assumption)); intro t'))
local macro_rules | `(tactic| walk_at "compareOp NotIn int ref") => `(tactic| ((with_reducible show wpAny _ _ (compareOp CmpOp.NotIn (Value.int _ _) (Value.ref 58)) _ _ _); k_dflt (refine' notin58 ?F ?X ?_; (case F => k_asm); (case X => k_asm))))
local macro_rules | `(tactic| walk_at "compareOp NotIn int ref") => `(tactic| ((with_reducible show wpAny _ _ (compareOp CmpOp.NotIn (Value.int _ _) (Value.ref 57)) _ _ _); k_dflt (refine' notin57 ?F ?X ?_; (case F => k_asm); (case X => k_asm))))
local macro_rules | `(tactic| walk_at "binaryOp LShift int int") => `(tactic| (refine lshift_int_small (by decide) (by decide) (by omega) ?_))
local macro_rules | `(tactic| walk_at "call builtin:_struct.pack") => `(tactic| ((with_reducible show wpAny _ _ (call (Value.builtin _) [Value.str _ _, Value.int _ _]) _ _ _); k_dflt (first | (refine' pack_B ?h0 ?h1 ?_; (case h0 => omega); (case h1 => omega)) | (refine' pack_q ?h0 ?h1 ?_; (case h0 => omega); (case h1 => omega))); intro t'))
local macro_rules | `(tactic| ktr_rel) => `(tactic| exact back_led (by assumption) (by assumption) (by assumption) (by assumption) (by assumption) (fun p hp => .inr hp))
local macro_rules | `(tactic| ktr_unf) => `(tactic| first | omega | ((try dsimp only [Around.deeper, Around.in1, Around.mark]); (try simp only [dU, uU]); (try dsimp only [ktrTop, Around.deeper, Around.in1, Around.mark]); omega))
local macro_rules | `(tactic| k_enter) => `(tactic| (ktr_enter; intro g' L' h' kg' lL' FG' F' N' B' X' T'; (try dsimp only); (try k_fold)))
local macro_rules | `(tactic| walk_at "call ref") => `(tactic| (k_here; k_dflt (refine' call_clsK ?k1 ?k2 ?k3 ?k4 ?k5 ?k6 ?_; (case k1 => k_asm); (case k2 => k_asm); (case k3 => k_asm); (case k4 => k_is); (case k5 => k_is); (case k6 => k_is); k_whole; intro x' d' h' x1 l1 l2 F' N'; (try ((have l9 := news_lt (by assumption) l1); (k_lt l9))); (try k_lt2 l1); (try k_lt2 l2); (try k_sweep); k_enter)))

local macro_rules | `(tactic| walk_at "getMethod ref") => `(tactic| ((with_reducible show wpAny _ _ (getMethod (Value.ref 57) (Str.ofString "keys") _) _ _ _); k_dflt (refine' getKeys (D := D8) ?K ?F ?_; (case K => exact map57 (by k_asm)); (case F => k_asm))))
local macro_rules | `(tactic| walk_at "getMethod ref") => `(tactic| ((with_reducible show wpAny _ _ (getMethod (Value.ref 58) (Str.ofString "keys") _) _ _ _); k_dflt (refine' getKeys (D := D8) ?K ?F ?_; (case K => exact map58 (by k_asm)); (case F => k_asm))))
local macro_rules | `(tactic| walk_at "call builtin:dict.keys") => `(tactic| ((with_reducible show wpAny _ _ (call (Value.builtin "dict.keys") [Value.ref 57]) _ _ _); k_dflt (refine' callKeys (D := D8) ?K ?F ?N ?_; (case K => exact map57 (by k_asm)); (case F => k_asm); (case N => k_asm)); intro v9 h9 F9 N9 l9; (try k_lt l9); (try k_sweep)))
local macro_rules | `(tactic| walk_at "call builtin:dict.keys") => `(tactic| ((with_reducible show wpAny _ _ (call (Value.builtin "dict.keys") [Value.ref 58]) _ _ _); k_dflt (refine' callKeys (D := D8) ?K ?F ?N ?_; (case K => exact map58 (by k_asm)); (case F => k_asm); (case N => k_asm)); intro v9 h9 F9 N9 l9; (try k_lt l9); (try k_sweep)))
local macro_rules | `(tactic| walk_at "call type:list") => `(tactic| ((with_reducible show wpAny _ _ (call (Value.type _) [Value.ref _]) _ _ _); k_dflt (first | (refine' listKeys (a := 57) ?K ?hh ?F ?N ?hv ?_; (case K => exact map57 (by k_asm)); (case hh => exact rfl); (case F => k_asm); (case N => k_asm); (case hv => k_mem)) | (refine' listKeys (a := 58) ?K ?hh ?F ?N ?hv ?_; (case K => exact map58 (by k_asm)); (case hh => exact rfl); (case F => k_asm); (case N => k_asm); (case hv => k_mem))); intro B9 c9 h9 tk9 t91 t92 t93 t94 t95 t96 t97 t98 F9 N9 l9; (try k_lt l9); (try k_sweep)))
local macro_rules | `(tactic| walk_at "binaryOp Mod str ref") => `(tactic| (k_dflt (first | (refine' modL (Y := F1) ?e meetsL ?hg ?hu ?F ?N ?hB ?_; (case e => decide +kernel); (case hg => exact rfl); (case hu => ((show _ < 9900); ktr_unf)); (case F => k_asm); (case N => k_asm); (case hB => k_mem)) | (refine' modL (Y := F2) ?e meetsL2 ?hg ?hu ?F ?N ?hB ?_; (case e => decide +kernel); (case hg => exact rfl); (case hu => ((show _ < 9900); ktr_unf)); (case F => k_asm); (case N => k_asm); (case hB => k_mem))); intro h9 tk9 T9 u9 F9 N9; (try k_sweep)))
local macro_rules | `(tactic| walk_at "leaving ref") => `(tactic| (first
  | (refine' leave_raiseS ?k1 ?k0 ?k2 ?k3 ?_; (case k0 => first | assumption | exact Heap.MadeExc.of (by assumption)); (case k2 => assumption); (case k1 => assumption); (case k3 => k_asm); k_whole; intro h' t' S' R' U'; (try dsimp only at S' R' U' ⊢))
  | (refine' leave_onS ?k1 ?k2 ?k3 ?k4 ?_; (case k3 => assumption); (case k2 => assumption); (case k1 => assumption); (case k4 => assumption); k_whole; intro h' S' R' U'; (try dsimp only at S' R' U' ⊢))))

local macro_rules | `(tactic| walk_at "call ref") => `(tactic| ((try dsimp only [List.cons_append, List.nil_append]); (with_reducible show wpAny _ _ (call (Value.ref 157) [] _) _ _ _); k_dflt (refine' mkLoc_kw ?B ?F ?X ?T ?hk ?hd ?hu ?h1 ?h2 ?_; (case B => k_asm); (case F => k_asm); (case X => k_asm); (case T => k_asm); (case hk => first | exact rfl | assumption); (case hd => ktr_unf); (case hu => ktr_unf); (case h1 => assumption); (case h2 => assumption)); intro l9 e1 e2 e3 e4 h9 tk9 K9 o1 o2 o3 o4 NN9; (have N9 := news_app NN9 (K9.news0 (by assumption))); (simp only [List.cons_append, List.nil_append] at N9); (have F9 := K9.fr)))
local macro_rules | `(tactic| walk_at "call builtin:_struct.unpack") => `(tactic| (k_dflt (refine' unpackI ?hb ?hks ?hz ?h7 ?F ?N ?_; (case hb => assumption); (case hks => assumption); (case hz => omega); (case h7 => omega); (case F => k_asm); (case N => k_asm)); intro x9 h9 t9 tk9 F9 N9))
theorem zeros_I (n : Nat) : KBw.bInts (List.replicate n [(0 : UInt8)]).flatten.toArray = List.replicate n 0 := by
  have h : (List.replicate n [(0 : UInt8)]).flatten = List.replicate n 0 := by
    induction n with
    | zero => rfl
    | succ k ih => rw [List.replicate_succ, List.flatten_cons, ih]; rfl
  rw [h]
  show List.map _ (List.replicate n 0) = _
  rw [List.map_replicate]; rfl
local macro_rules | `(tactic| walk_at "binaryOp Add bytes bytes") => `(tactic| (k_dflt (refine' KBa.add_K (zeros_I _) ?hc ?hz ?_; (case hc => assumption); (case hz => (simp only [List.length_replicate]; omega))); intro t9 k9 Hb9))
theorem sz_le {a : Nat} {c L : Addr} {g h : Heap} {m : Str → Option Value} (lL : a ≤ L) (F : Fr g L h m) (o : @LE.le Nat _ h.objs.size c) : @LE.le Nat _ a c := Nat.le_trans lL (Nat.le_trans (Nat.le_of_lt F.ns.lt) o)
theorem news_take {h₀ h : Heap} {L : Addr} {news : List (Addr × Obj)} (k : Nat) (N : News h₀ L h news) : News h₀ L h (news.take k) := news_sub N fun _ hp => List.mem_of_mem_take hp
section
variable {w : World} {A₀ : Around} {s : Shared} {base h₀ : Heap} {outer : List Env} {L : Addr} {m : Str → Option Value} {mean : ExcName → Option Value} {mg mb : Str → Option Value}
  {Q E : Value → Shared → Prop} {dp un : Nat} {gd : Option (List Code)} {cn : Str} {cs : Scope} {a : Addr} {ccd : Value} {cl : List (Str × Addr)}

theorem from_bytes_okC {b c : Array UInt8} {ks ls : List Int} {tb tc : Tok} (B : Below A₀ base outer h₀) (F : Fr h₀ L s.heap m) (X : (hd.heap_39 w.params).In h₀) (T : Top hd.view_39 LO mean mg mb h₀)
   (hke : cs.kind = .function) (hdp : dp + 40 < 1000) (hun : un + 400 < 9900) (hb : KBw.bInts b = ks) (hc : KBw.bInts c = ls) (hk1 : 1 ≤ ks.length) (hk2 : ks.length ≤ 5) (hl1 : 1 ≤ ls.length) (hl2 : ls.length ≤ 4)
   (hQ : ∀ l : Lc, l.ad = readI ks → l.sz = readI ls → l.low = some ((ks.length : Int) * 8) → l.high = some ((ls.length : Int) * 8) → ∀ h' tk', Back h₀ L m [] s.heap h' → s.heap.objs.size ≤ l.dloc → l.dloc < l.loc → l.loc < l.dal → l.dal < l.al →
      News h₀ L h' (lcNews w l) → Q (.ref l.loc) { s with heap := h', toks := tk' }) :
   codeAny (model PySem.Challenge.rw_eh5030_01.row.prog w) (ktrTop dp un gd cn cs L a ccd cl outer) (.call (.ref 144) ⟨[.ref 157, .bytes b tb, .bytes c tc], []⟩) (fun r s' => match r with | .ok (.ret v) => Q v s' | .ok _ => False | .error e => E e s') s := by
  have N : News h₀ L s.heap [] := News.nil
  k_dflt ktr_enter
  have hN := gets N
  intro g L' h₁ kg lL FG F N B X T
  (try dsimp only); (try k_fold)
  have w1 : e8 ((ks.length : Int) * 8) = true := e8_iff.mpr (by omega)
  have w2 : e8 ((ls.length : Int) * 8) = true := e8_iff.mpr (by omega)
  k_steps
  refine' hQ _ ?e1 ?e2 ?e3 ?e4 _ _ ?bk ?o1 ?o2 ?o3 ?o4 ?nn
  case e1 => assumption
  case e2 => assumption
  case e3 => assumption
  case e4 => assumption
  case bk => exact back_led kg hN (by assumption) (by assumption) (by assumption) (fun p hp => nomatch hp)
  case o1 => refine' sz_le lL ?F ?o; (case o => assumption); (case F => assumption)
  case o2 => assumption
  case o3 => assumption
  case o4 => assumption
  case nn => exact news_take 4 (by assumption)
end
end Mine
namespace Mine
open PySem PySem.Calls PySem.Spec
theorem rs_Q3 : True := by w_top off; trivial
local macro_rules | `(tactic| ktr_enter) => `(tactic| (
  refine' enterK ?k1 ?k2 ?k3 ?k4 ?k5 ?kA ?kF ?kK ?k6 ?k7 ?k8 ?k9 ?kB ?_ ?c5 ?c2 ?c3 ?c4;
  (case kA => exact rfl); (case kF => exact rfl); (case kK => first | assumption | exact rfl); (case k1 => assumption); (case k2 => assumption); (case k3 => assumption); (case k4 => assumption); (case k5 => assumption);
  (case k6 => k_is); (case k7 => k_is); (case k8 => first | (simp only [recursionLimit]; omega) | ktr_room); (case k9 => first | exact BindsTo.of_eq rfl | exact binds_K (by k_in) rfl (by k_is) rfl rfl rfl); (case c5 => decide); (case kB => exact locs rfl); (case c2 => exact rfl); (case c3 => exact rfl); (case c4 => exact rfl)))
local macro_rules | `(tactic| walk_at "subscriptTail") => `(tactic| ((with_reducible show wpAny _ _ (subscriptTail _ _ (Value.ref 58) (Value.int _ _)) _ _ _); k_dflt (refine' item58 ?F ?X ?h ?_; (case F => k_asm); (case X => k_asm); (case h => assumption)); intro t'))
local macro_rules | `(tactic| walk_at "subscriptTail") => `(tactic| ((with_reducible show wpAny _ _ (subscriptTail _ _ (Value.ref 57) (Value.int _ _)) _ _ _); k_dflt (refine' item57 ?F ?X ?h ?_; (case F => k_asm); (case X => k_asm); (case h => assumption)); intro t'))
local macro_rules | `(tactic| walk_at "compareOp NotIn int ref") => `(tactic| ((with_reducible show wpAny _ _ (compareOp CmpOp.NotIn (Value.int _ _) (Value.ref 58)) _ _ _); k_dflt (refine' notin58 ?F ?X ?_; (case F => k_asm); (case X => k_asm))))
local macro_rules | `(tactic| walk_at "compareOp NotIn int ref") => `(tactic| ((with_reducible show wpAny _ _ (compareOp CmpOp.NotIn (Value.int _ _) (Value.ref 57)) _ _ _); k_dflt (refine' notin57 ?F ?X ?_; (case F => k_asm); (case X => k_asm))))
local macro_rules | `(tactic| walk_at "binaryOp LShift int int") => `(tactic| (refine lshift_int_small (by decide) (by decide) (by omega) ?_))
local macro_rules | `(tactic| walk_at "call builtin:_struct.pack") => `(tactic| ((with_reducible show wpAny _ _ (call (Value.builtin _) [Value.str _ _, Value.int _ _]) _ _ _); k_dflt (first | (refine' pack_B ?h0 ?h1 ?_; (case h0 => omega); (case h1 => omega)) | (refine' pack_q ?h0 ?h1 ?_; (case h0 => omega); (case h1 => omega))); intro t'))
local macro_rules | `(tactic| ktr_rel) => `(tactic| exact back_led (by assumption) (by assumption) (by assumption) (by assumption) (by assumption) (fun p hp => .inr hp))
local macro_rules | `(tactic| ktr_unf) => `(tactic| first | omega | ((try dsimp only [Around.deeper, Around.in1, Around.mark]); (try simp only [dU, uU]); (try dsimp only [ktrTop, Around.deeper, Around.in1, Around.mark]); omega))
local macro_rules | `(tactic| k_enter) => `(tactic| (ktr_enter; intro g' L' h' kg' lL' FG' F' N' B' X' T'; (try dsimp only); (try k_fold)))
local macro_rules | `(tactic| walk_at "call ref") => `(tactic| (k_here; k_dflt (refine' call_clsK ?k1 ?k2 ?k3 ?k4 ?k5 ?k6 ?_; (case k1 => k_asm); (case k2 => k_asm); (case k3 => k_asm); (case k4 => k_is); (case k5 => k_is); (case k6 => k_is); k_whole; intro x' d' h' x1 l1 l2 F' N'; (try ((have l9 := news_lt (by assumption) l1); (k_lt l9))); (try k_lt2 l1); (try k_lt2 l2); (try k_sweep); k_enter)))

local macro_rules | `(tactic| walk_at "getMethod ref") => `(tactic| ((with_reducible show wpAny _ _ (getMethod (Value.ref 57) (Str.ofString "keys") _) _ _ _); k_dflt (refine' getKeys (D := D8) ?K ?F ?_; (case K => exact map57 (by k_asm)); (case F => k_asm))))
local macro_rules | `(tactic| walk_at "getMethod ref") => `(tactic| ((with_reducible show wpAny _ _ (getMethod (Value.ref 58) (Str.ofString "keys") _) _ _ _); k_dflt (refine' getKeys (D := D8) ?K ?F ?_; (case K => exact map58 (by k_asm)); (case F => k_asm))))
local macro_rules | `(tactic| walk_at "call builtin:dict.keys") => `(tactic| ((with_reducible show wpAny _ _ (call (Value.builtin "dict.keys") [Value.ref 57]) _ _ _); k_dflt (refine' callKeys (D := D8) ?K ?F ?N ?_; (case K => exact map57 (by k_asm)); (case F => k_asm); (case N => k_asm)); intro v9 h9 F9 N9 l9; (try k_lt l9); (try k_sweep)))
local macro_rules | `(tactic| walk_at "call builtin:dict.keys") => `(tactic| ((with_reducible show wpAny _ _ (call (Value.builtin "dict.keys") [Value.ref 58]) _ _ _); k_dflt (refine' callKeys (D := D8) ?K ?F ?N ?_; (case K => exact map58 (by k_asm)); (case F => k_asm); (case N => k_asm)); intro v9 h9 F9 N9 l9; (try k_lt l9); (try k_sweep)))
local macro_rules | `(tactic| walk_at "call type:list") => `(tactic| ((with_reducible show wpAny _ _ (call (Value.type _) [Value.ref _]) _ _ _); k_dflt (first | (refine' listKeys (a := 57) ?K ?hh ?F ?N ?hv ?_; (case K => exact map57 (by k_asm)); (case hh => exact rfl); (case F => k_asm); (case N => k_asm); (case hv => k_mem)) | (refine' listKeys (a := 58) ?K ?hh ?F ?N ?hv ?_; (case K => exact map58 (by k_asm)); (case hh => exact rfl); (case F => k_asm); (case N => k_asm); (case hv => k_mem))); intro B9 c9 h9 tk9 t91 t92 t93 t94 t95 t96 t97 t98 F9 N9 l9; (try k_lt l9); (try k_sweep)))
local macro_rules | `(tactic| walk_at "binaryOp Mod str ref") => `(tactic| (k_dflt (first | (refine' modL (Y := F1) ?e meetsL ?hg ?hu ?F ?N ?hB ?_; (case e => decide +kernel); (case hg => exact rfl); (case hu => ((show _ < 9900); ktr_unf)); (case F => k_asm); (case N => k_asm); (case hB => k_mem)) | (refine' modL (Y := F2) ?e meetsL2 ?hg ?hu ?F ?N ?hB ?_; (case e => decide +kernel); (case hg => exact rfl); (case hu => ((show _ < 9900); ktr_unf)); (case F => k_asm); (case N => k_asm); (case hB => k_mem))); intro h9 tk9 T9 u9 F9 N9; (try k_sweep)))
local macro_rules | `(tactic| walk_at "leaving ref") => `(tactic| (first
  | (refine' leave_raiseS ?k1 ?k0 ?k2 ?k3 ?_; (case k0 => first | assumption | exact Heap.MadeExc.of (by assumption)); (case k2 => assumption); (case k1 => assumption); (case k3 => k_asm); k_whole; intro h' t' S' R' U'; (try dsimp only at S' R' U' ⊢))
  | (refine' leave_onS ?k1 ?k2 ?k3 ?k4 ?_; (case k3 => assumption); (case k2 => assumption); (case k1 => assumption); (case k4 => assumption); k_whole; intro h' S' R' U'; (try dsimp only at S' R' U' ⊢))))

section
variable {w : World} {A₀ : Around} {s : Shared} {base h₀ : Heap} {outer : List Env} {L : Addr} {m : Str → Option Value} {mean : ExcName → Option Value} {mg mb : Str → Option Value}
  {Q E : Value → Shared → Prop} {dp un : Nat} {gd : Option (List Code)} {cn : Str} {cs : Scope} {a : Addr} {ccd : Value} {cl : List (Str × Addr)}

theorem from_bytes_raiseC {b c : Array UInt8} {ks ls : List Int} {tb tc : Tok} (B : Below A₀ base outer h₀) (F : Fr h₀ L s.heap m) (X : (hd.heap_39 w.params).In h₀) (T : Top hd.view_39 LO mean mg mb h₀)
   (hke : cs.kind = .function) (hdp : dp + 40 < 1000) (hun : un + 400 < 9900) (hb : KBw.bInts b = ks) (hc : KBw.bInts c = ls) (hk8 : ks.length ≤ 8) (hl8 : ls.length ≤ 8) (hbad : 5 < ks.length ∨ 4 < ls.length)
   (hE : ∀ e h' tk', Flown base (envX cn cs L a ccd cl :: outer) s.heap e h' → E (.ref e) { s with heap := h', toks := tk' }) :
   codeAny (model PySem.Challenge.rw_eh5030_01.row.prog w) (ktrTop dp un (some []) cn cs L a ccd cl outer) (.call (.ref 144) ⟨[.ref 157, .bytes b tb, .bytes c tc], []⟩) (fun r s' => match r with | .ok (.ret v) => Q v s' | .ok _ => False | .error e => E e s') s := by
  by_cases h5 : 5 < ks.length
  all_goals
    have N : News h₀ L s.heap [] := News.nil
    k_dflt ktr_enter
    have hN := gets N
    intro g L' h₁ kg lL FG F N B X T
    (try dsimp only); (try k_fold)
    (try have h4 : 4 < ls.length := by omega)
    k_steps
    all_goals
      refine' hE _ _ _ (flown_of kg ?u1 (RaisedS.toSN ?r1))
      case r1 => assumption
      case u1 => assumption
end
end Mine
namespace Mine
open PySem PySem.Calls PySem.Spec
section
variable {prog : Program} {w : World} {A : Around} {E : Value → Shared → Prop} {s : Shared} {g : Heap} {env : Env} {body : List Stmt} {Q : Flow → Shared → Prop} {m : Str → Option Value} {news : List (Addr × Obj)} {l1 l2 : Addr} {xs ys : Array Value} {n1 n2 : Nat} {a b : Str} {pa pb pos : Pos} {k : Nat}
/-- the ledger's objects keep off the five objects that the loop made at z -/
def OffZ (z : Nat) (k : Nat) (news : List (Addr × Obj)) : Prop := ∀ p ∈ news, @LT.lt Nat _ p.1 z ∨ @LE.le Nat _ (z + k) p.1
/-- one turn of a loop that may change objects of the ledger -/
def TurnL (g : Heap) (L : Addr) (own : List (Addr × Obj)) (z k : Nat) (Jn : (Str → Option Value) → List (Addr × Obj) → Prop) (s : Shared) (Q : Flow → Shared → Prop) (f : Flow) (s₂ : Shared) : Prop :=
  match f with
  | .ret v => Q (.ret v) s₂
  | .brk => Q .next s₂
  | _ => (f = .next ∨ f = .cont) ∧ ∃ h' tk m₂ news₂, s₂ = { s with heap := h', toks := tk } ∧ Fr g L h' m₂ ∧ News g L h' (own ++ news₂) ∧ OffZ z k news₂ ∧ Jn m₂ news₂
theorem zip_apart (I l1 l2 : Nat) (h1 : l1 < I) (h2 : l2 < I) : ZipApart (I + 4) (I + 2) (I + 3) I (I + 1) l1 l2 := PySem.W.ktu_apart I l1 l2 h1 h2
theorem forZip {L : Addr} (hL : env.locals = L) (F : Fr g L s.heap m) (N : News g L s.heap news) (hm1 : (l1, listOf xs n1) ∈ news) (hm2 : (l2, listOf ys n2) ∈ news) (hh : A.handled = none)
    (ha : env.kindOf a = some .local) (hb : env.kindOf b = some .local) (hp : (env.scope.kind == .class || (env.scope.kind == .module && env.locals != env.globals)) = false)
    (J : Nat → (Str → Option Value) → List (Addr × Obj) → Prop) (h0 : J 0 m news)
    (step : ∀ i x y m₁ news₁ h tk own, xs[i]? = some x → ys[i]? = some y → J i m₁ news₁ → s.heap.objs.size + 5 ≤ h.objs.size → (∀ p ∈ own, (@LE.le Nat _ s.heap.objs.size p.1 ∧ @LT.lt Nat _ p.1 (s.heap.objs.size + 5)) ∨ p = (l1, listOf xs n1) ∨ p = (l2, listOf ys n2)) → (∃ o, (s.heap.objs.size + 4, o) ∈ own) → OffZ s.heap.objs.size 5 news₁ →
      Fr g L h (fun z => if z = b then some y else if z = a then some x else m₁ z) → News g L h (own ++ news₁) →
      wpAny (model prog w) A (execs body env) (TurnL g L own s.heap.objs.size 5 (J (i + 1)) s Q) E { s with heap := h, toks := tk })
    (keepL : ∀ i m₁ news₁, J i m₁ news₁ → (l1, listOf xs n1) ∈ news₁ ∧ (l2, listOf ys n2) ∈ news₁)
    (done : ∀ h tk m' news', Fr g L h m' → News g L h news' → OffZ s.heap.objs.size 5 news' → J (min xs.size ys.size) m' news' → Q .next { s with heap := h, toks := tk }) :
    wpAny (model prog w) A (call (.type "zip") [.ref l1, .ref l2]) (fun xv s₁ => wpAny (model prog w) A (pyIter xv) (fun it s₂ => PySem.W.TurnsAt prog w A g env (.Tuple [.Name a pa, .Name b pb] k pos) body Q E it s₂) E s₁) E s := by
  subst hL
  have hax1 := N _ hm1
  have hax2 := N _ hm2
  have hl1 : s.heap.IsList l1 xs := ⟨_, hax1.1, rfl, n1, rfl⟩
  have hl2 : s.heap.IsList l2 ys := ⟨_, hax2.1, rfl, n2, rfl⟩
  have hlt1 : @LT.lt Nat _ l1 s.heap.objs.size := Heap.lt_size hax1.1
  have hlt2 : @LT.lt Nat _ l2 s.heap.objs.size := Heap.lt_size hax2.1
  have hLs : @LT.lt Nat _ env.locals s.heap.objs.size := F.ns.lt
  have D := zip_apart s.heap.objs.size l1 l2 hlt1 hlt2
  have hoff : OffZ s.heap.objs.size 5 news := fun p hp => .inl (Heap.lt_size (N p hp).1)
  refine call_zip_2 hl1 hl2 fun h' hz hTI hTO hi1 hi2 hsz hk => ?_
  refine wpAny_pyIter_zip hz ?_
  have offwr : ∀ {nw : List (Addr × Obj)}, OffZ s.heap.objs.size 5 nw → ∀ p ∈ nw, p.1 ∉ [s.heap.objs.size + 4, s.heap.objs.size + 3, s.heap.objs.size, s.heap.objs.size + 1] := fun {nw} ho p hp hm => by
    have := ho p hp
    simp only [List.mem_cons, List.not_mem_nil, or_false] at hm
    rcases hm with e | e | e | e <;> rw [e] at this <;> omega
  refine ⟨_, _, _, _, _, _, _, m, news, fun i m₁ news₁ => OffZ s.heap.objs.size 5 news₁ ∧ J i m₁ news₁, rfl, PySem.W.KTurns.ofWalksU (WalksT.zip2 hh _ _ _ _ _ _ _ D xs ys).toU, ?_, ?_, offwr hoff, ⟨hz, hTI, ⟨_, _, hTO⟩, hi1, hi2, ?_⟩, F.keeps hk, N.grown hk, ⟨hoff, h0⟩, ?_, ?_⟩
  · intro hm
    simp only [List.mem_cons, List.not_mem_nil, or_false] at hm
    rcases hm with e | e | e | e | e | e | e
    · rw [e] at hLs; omega
    · rw [e] at hLs; omega
    · rw [e] at hLs; omega
    · rw [e] at hLs; omega
    · rw [e] at hLs; omega
    · exact hax1.2.1 e.symm
    · exact hax2.2.1 e.symm
  · intro q hq
    refine PySem.W.ktu_new F ?_
    simp only [List.mem_cons, List.not_mem_nil, or_false] at hq
    rcases hq with e | e | e | e <;> rw [e] <;> omega
  · exact ⟨hl1.at fun o e => hk _ _ e, hl2.at fun o e => hk _ _ e⟩
  · rintro i v m₁ news₁ h₁ tk₁ own hi ⟨T, vals, rfl, ⟨x, y, hx, hy, rfl⟩, hT⟩ ⟨ho, hJ⟩ _ hown hget hall hst F₁ N₁
    obtain ⟨hz1, _, ⟨_, _, hTO1⟩, _⟩ := hst
    refine PySem.W.kcp_assign hh hT ha hb hp F₁.ns fun h₂ tk₂ hn₂ hk₂ => ?_
    have F₂ : Fr g env.locals h₂ (fun z => if z = b then some y else if z = a then some x else m₁ z) := ⟨hn₂, fun c o e => hk₂ c o (fun q => by
      have := kts_self F
      rw [q, this] at e
      cases e) (F₁.keep c o e), F₁.above⟩
    have N₂ : News g env.locals h₂ (own ++ news₁) := fun p hp => ⟨hk₂ _ _ (N₁ p hp).2.1 (N₁ p hp).1, (N₁ p hp).2⟩
    have hs5 : s.heap.objs.size + 5 ≤ h₂.objs.size := by
      have : @LT.lt Nat _ (s.heap.objs.size + 4) h₂.objs.size := Heap.lt_size (hk₂ _ _ (fun q => by rw [← q] at hLs; omega) hz1)
      omega
    have hkl := keepL _ _ _ hJ
    refine wpAny_mono (step i x y m₁ news₁ h₂ tk₂ own hx hy hJ hs5 (fun p hp => ?_) ⟨_, hall _ (.head _) (PySem.W.ktu_new F (by omega)) _ hz1⟩ ho F₂ N₂) (fun f s₂ h₂ => ?_) fun _ _ e => e
    · obtain ⟨pa, po⟩ := p
      have hm := hown _ hp
      have hg := hget _ hp
      simp only [List.mem_cons, List.not_mem_nil, or_false] at hm
      rcases hm with e | e | e | e | e | e | e
      · left; dsimp only; rw [e]; omega
      · left; dsimp only; rw [e]; omega
      · left; dsimp only; rw [e]; omega
      · left; dsimp only; rw [e]; omega
      · left; dsimp only; rw [e]; omega
      · right; left; subst e
        have := (N₁ _ (List.mem_append_right _ hkl.1)).1
        rw [show h₁.get? pa = some po from hg] at this
        cases this; rfl
      · right; right; subst e
        have := (N₁ _ (List.mem_append_right _ hkl.2)).1
        rw [show h₁.get? pa = some po from hg] at this
        cases this; rfl
    · cases f with
      | ret v => exact h₂
      | brk => exact h₂
      | next =>
        obtain ⟨_, h', tk', m₂, news₂, rfl, F₂, N₂, ho₂, hJ₂⟩ := h₂
        exact ⟨rfl, h', tk', m₂, news₂, rfl, F₂, N₂, offwr ho₂, ho₂, hJ₂⟩
      | cont =>
        obtain ⟨_, h', tk', m₂, news₂, rfl, F₂, N₂, ho₂, hJ₂⟩ := h₂
        exact ⟨rfl, h', tk', m₂, news₂, rfl, F₂, N₂, offwr ho₂, ho₂, hJ₂⟩
  · rintro h₂ tk m' news' F' N' _ ⟨ho, hJ⟩
    exact done h₂ tk m' news' F' N' ho hJ
/-- a loop over two lists of the ledger that turns nothing in the ledger, and no local beyond its own two -/
theorem forZipR {L : Addr} (hL : env.locals = L) (F : Fr g L s.heap m) (N : News g L s.heap news) (hm1 : (l1, listOf xs n1) ∈ news) (hm2 : (l2, listOf ys n2) ∈ news) (hh : A.handled = none)
    (ha : env.kindOf a = some .local) (hb : env.kindOf b = some .local) (hp : (env.scope.kind == .class || (env.scope.kind == .module && env.locals != env.globals)) = false)
    (step : ∀ (i : Nat) (x y : Value) (m₁ : Str → Option Value) (h : Heap) (tk : Nat) (own : List (Addr × Obj)), xs[i]? = some x → ys[i]? = some y → (∀ z, z ≠ a → z ≠ b → m₁ z = m z) →
      Fr g L h (fun z => if z = b then some y else if z = a then some x else m₁ z) → News g L h (own ++ news) →
      wpAny (model prog w) A (execs body env) (Turn g L (own ++ news) (fun m₂ => ∀ z, z ≠ a → z ≠ b → m₂ z = m z) s Q) E { s with heap := h, toks := tk })
    (done : ∀ (h : Heap) (tk : Nat) (u : Str → Option Value), Fr g L h (fun z => if z = b then u z else if z = a then u z else m z) → News g L h news → Q .next { s with heap := h, toks := tk }) :
    wpAny (model prog w) A (call (.type "zip") [.ref l1, .ref l2]) (fun xv s₁ => wpAny (model prog w) A (pyIter xv) (fun it s₂ => PySem.W.TurnsAt prog w A g env (.Tuple [.Name a pa, .Name b pb] k pos) body Q E it s₂) E s₁) E s := by
  refine forZip hL F N hm1 hm2 hh ha hb hp (fun _ m₁ news₁ => news₁ = news ∧ ∀ z, z ≠ a → z ≠ b → m₁ z = m z) ⟨rfl, fun _ _ _ => rfl⟩ ?_ ?_ ?_
  · rintro i x y m₁ news₁ h tk own hx hy ⟨rfl, hm⟩ _ _ _ ho F₂ N₂
    refine wpAny_mono (step i x y m₁ h tk own hx hy hm F₂ N₂) (fun f s₂ h₂ => ?_) fun _ _ e => e
    cases f with
    | ret v => exact h₂
    | brk => exact h₂
    | next =>
      obtain ⟨e, h', tk', m₂, rfl, F₃, N₃, hJ₂⟩ := h₂
      exact ⟨e, h', tk', m₂, _, rfl, F₃, N₃, ho, rfl, hJ₂⟩
    | cont =>
      obtain ⟨e, h', tk', m₂, rfl, F₃, N₃, hJ₂⟩ := h₂
      exact ⟨e, h', tk', m₂, _, rfl, F₃, N₃, ho, rfl, hJ₂⟩
  · rintro i m₁ news₁ ⟨rfl, _⟩
    exact ⟨hm1, hm2⟩
  · rintro h tk m' news' F' N' _ ⟨rfl, hm⟩
    refine done h tk m' ?_ N'
    have : m' = fun z => if z = b then m' z else if z = a then m' z else m z := funext fun z => by
      by_cases h1 : z = b
      · rw [if_pos h1]
      · by_cases h2 : z = a
        · rw [if_neg h1, if_pos h2]
        · rw [if_neg h1, if_neg h2, hm z h2 h1]
    rwa [this] at F'
end
end Mine
namespace Mine
open PySem PySem.Calls PySem.Spec PyProof.Rows.LCg
/-- one turn of a list comprehension that turns nothing in the ledger -/
def TurnC (h₀ : Heap) (L : Addr) (m : Str → Option Value) (nw : List (Addr × Obj)) (Ry : Value → Prop) (s : Shared) (y : Value) (s₂ : Shared) : Prop :=
  ∃ h' tk', s₂ = { s with heap := h', toks := tk' } ∧ Fr h₀ L h' m ∧ News h₀ L h' nw ∧ Ry y
section
variable {prog : Program} {w : World} {A : Around} {s₁ : Shared} {h₀ : Heap} {L : Addr} {m : Str → Option Value} {env : Env} {elt : Expr} {x : Str} {scope : Scope} {cl : List (Str × Addr)} {news : List (Addr × Obj)}
theorem compRest_inv {s : Shared} {S : List (Addr × Obj) → Prop} {P : Nat → Value → Prop} {Fin : List Value → List (Addr × Obj) → Prop} {n : Nat} (R : Nat → List Value → Prop) (hS : S news)
    (turn : ∀ (i : Nat) (v : Value) (ys : List Value) (I : Addr) (oI : Obj) (C : Addr) (oC : Obj) (D : Addr) (m₂ : Str → Option Value) (h : Heap) (tk : Nat) (E' : Value → Shared → Prop), P i v → R i ys → NsObj oC m₂ → m₂ x = some v → Fr h₀ L h m →
      News h₀ L h ((I, oI) :: (C, oC) :: (D, lst ys) :: news) → wpAny (model prog w) A (eval elt (compEnvC scope cl C env)) (TurnC h₀ L m ((I, oI) :: (C, oC) :: (D, lst ys) :: news) (fun y => R (i + 1) (ys ++ [y])) s) E' { s with heap := h, toks := tk })
    (fin : ∀ ys, R n ys → Fin ys news) : ∀ (k i : Nat) (ys : List Value), i + k = n → R i ys → CompRest prog w A h₀ L m env elt x scope cl s S P Fin k i ys news
  | 0, i, ys, hi, hR => CompRest.zero (fin ys (by rw [← show i = n from hi]; exact hR))
  | k + 1, i, ys, hi, hR => CompRest.succ fun v I oI C oC D m₂ h tk E' hP hC hx F N off _ =>
    wpAny_mono (turn i v ys I oI C oC D m₂ h tk E' hP hR hC hx F N) (fun y s₂ h₂ => by
      obtain ⟨h', tk', rfl, F', N', hy⟩ := h₂
      exact ⟨h', tk', news, rfl, F', N', off, hS, compRest_inv R hS turn fin k (i + 1) (ys ++ [y]) (by omega) hy⟩) fun _ _ e => e
theorem compSrc_inv {Fin : Shared → List Value → List (Addr × Obj) → Prop} {ax : Addr} {its : Array Value} {k : Nat} (hh : A.handled = none) (F : Fr h₀ L s₁.heap m) (N : News h₀ L s₁.heap news) (hm : (ax, listOf its k) ∈ news) (hsz : its.size < 100000)
    (R : Nat → List Value → Prop) (h0 : R 0 [])
    (turn : ∀ (i : Nat) (v : Value) (ys : List Value) (I : Addr) (oI : Obj) (C : Addr) (oC : Obj) (D : Addr) (m₂ : Str → Option Value) (h : Heap) (tk : Nat) (E' : Value → Shared → Prop), its[i]? = some v → R i ys → NsObj oC m₂ → m₂ x = some v → Fr h₀ L h m →
      News h₀ L h ((I, oI) :: (C, oC) :: (D, lst ys) :: news) → wpAny (model prog w) A (eval elt (compEnvC scope cl C env)) (TurnC h₀ L m ((I, oI) :: (C, oC) :: (D, lst ys) :: news) (fun y => R (i + 1) (ys ++ [y])) s₁) E' { s₁ with heap := h, toks := tk })
    (fin : ∀ g ys, R its.size ys → Fin { s₁ with heap := g } ys news) : CompSrc prog w A h₀ L m env elt x scope cl Fin (.ref ax) s₁ :=
  CompSrc.ledger hh F N hm (by rw [sizeLine_eq]; omega) fun g => compRest_inv (s := { s₁ with heap := g }) R (Or.inr ⟨_, hm, rfl, _, rfl⟩) (fun i v ys I oI C oC D m₂ h tk E' hv hR hC hx F' N' => turn i v ys I oI C oC D m₂ h tk E' hv hR hC hx F' N') (fun ys hR => fin g ys hR) _ _ _ (Nat.zero_add _) h0
end
end Mine
namespace Mine
open PySem PySem.Calls PySem.Spec
section
variable {prog : Program} {w : World} {A : Around} {E : Value → Shared → Prop} {s : Shared} {h₀ : Heap} {env : Env} {x : Str} {px pos : Pos} {iter : Expr} {body : List Stmt} {Q : Flow → Shared → Prop} {m : Str → Option Value} {news : List (Addr × Obj)} {le : Addr} {its : Array Value} {n : Nat}
/-- one turn of a loop whose ground may turn (an exception caught) -/
def TurnG (C : Heap → Prop) (fs : List Addr) (h₀ : Heap) (L I : Addr) (oI : Obj) (Jn : (Str → Option Value) → List (Addr × Obj) → Prop) (s : Shared) (Q : Flow → Shared → Prop) (f : Flow) (s₂ : Shared) : Prop :=
  match f with
  | .ret v => Q (.ret v) s₂
  | .brk => Q .next s₂
  | _ => (f = .next ∨ f = .cont) ∧ ∃ g' h' tk m₂ news₂, s₂ = { s with heap := h', toks := tk } ∧ PySem.W.KtsTurn fs h₀ g' ∧ C g' ∧ Fr g' L h' m₂ ∧ News g' L h' ((I, oI) :: news₂) ∧ OffZ I 1 news₂ ∧ Jn m₂ news₂
theorem ForG {L : Addr} (hL : env.locals = L) (fs : List Addr) (C : Heap → Prop) (hC : C h₀) (F : Fr h₀ L s.heap m) (N : News h₀ L s.heap news) (hle : (le, listOf its n) ∈ news) (hh : A.handled = none)
    (hx : env.kindOf x = some .local) (hp : (env.scope.kind == .class || (env.scope.kind == .module && env.locals != env.globals)) = false)
    (hit : ∀ {R : Value → Shared → Prop}, R (.ref le) s → wpAny (model prog w) A (eval iter env) R E s)
    (J : Nat → (Str → Option Value) → List (Addr × Obj) → Prop) (h0 : J 0 m news)
    (step : ∀ (i : Nat) (v : Value) (m₁ : Str → Option Value) (news₁ : List (Addr × Obj)) (g h : Heap) (tk : Nat) (I : Addr) (oI : Obj), i < its.size → its[i]? = some v → PySem.W.KtsTurn fs h₀ g → C g → J i m₁ news₁ → OffZ I 1 news₁ → @LT.lt Nat _ I h.objs.size → Fr g L h (fun y => if y = x then some v else m₁ y) → News g L h ((I, oI) :: news₁) →
      wpAny (model prog w) A (execs body env) (TurnG C fs h₀ L I oI (J (i + 1)) s Q) E { s with heap := h, toks := tk })
    (keepL : ∀ i m₁ news₁, J i m₁ news₁ → (le, listOf its n) ∈ news₁)
    (done : ∀ (g h : Heap) (tk : Nat) (m' : Str → Option Value) (news' : List (Addr × Obj)), PySem.W.KtsTurn fs h₀ g → C g → Fr g L h m' → News g L h news' → J its.size m' news' → Q .next { s with heap := h, toks := tk })
    (hs : ∀ x, foldedSetIterable iter env x = pure x)
    (hE : PassesOwn (model prog w) A env E) :
    wpAny (model prog w) A (exec (.For (.Name x px) iter body [] pos) env) Q E s := by
  subst hL
  have hl : s.heap.IsList le its := N.isList hle
  have hlt : ∀ p ∈ news, @LT.lt Nat _ p.1 s.heap.objs.size := fun p hp => Heap.lt_size (N p hp).1
  have hne : le ≠ s.heap.objs.size := Nat.ne_of_lt (hlt _ hle)
  have hLI : env.locals ≠ s.heap.objs.size := Nat.ne_of_lt F.ns.lt
  have hg0 : h₀.get? s.heap.objs.size = none := by
    cases q : h₀.get? s.heap.objs.size with
    | none => rfl
    | some o => exact absurd (Heap.lt_size (F.keep _ _ q)) (Nat.lt_irrefl _)
  refine wpAny_For (hit (wpAny_pyIter_list hl ?_)) hs
  refine codeAny_forLoop (R := fun r s' => match r with | .ok f => Q f s' | .error e => cameBackBy (model prog w) A env E e s')
    (fun k s' => ∃ g h' tk m' news' i, s' = { s with heap := h', toks := tk } ∧ PySem.W.KtsTurn fs h₀ g ∧ C g ∧ h'.IsListIter s.heap.objs.size le i ∧ Fr g env.locals h' m' ∧ News g env.locals h' news' ∧ OffZ s.heap.objs.size 1 news' ∧ J i m' news' ∧ i ≤ its.size ∧ k = its.size + 1 - i) ?_ (its.size + 1)
    ⟨h₀, _, _, m, news, 0, rfl, .refl, hC, ⟨_, Heap.get?_push_size _ rfl, rfl, rfl⟩, F.push _, News.pushKeep N _, fun p hp => .inl (hlt p hp), h0, Nat.zero_le _, rfl⟩
  rintro k s' ⟨g, h', tk, m', news', i, rfl, T, hCg, hit', F', N', hof, hJ, hi, rfl⟩
  have hn' : ∀ p ∈ news', p.1 ≠ s.heap.objs.size := fun p hp q => by
    have := hof p hp
    rw [q] at this
    omega
  have hgI : g.get? s.heap.objs.size = none := T.none_ _ hg0
  have hl' : h'.IsList le its := N'.isList (keepL _ _ _ hJ)
  by_cases hlt' : i < its.size
  · refine wpAny_pyNext_list_item hit' hl' (x := its[i]) (by simp [hlt']) fun h₁ hit₁ hs₁ => ?_
    have F₁ : Fr g env.locals h₁ m' := ⟨F'.ns.at' fun o e => hs₁.extBut _ _ hLI e, fun b o e => hs₁.extBut _ _ (fun q => by rw [q, hgI] at e; cases e) (F'.keep b o e), F'.above⟩
    have N₁ : News g env.locals h₁ news' := fun p hp => ⟨hs₁.extBut _ _ (hn' p hp) (N' p hp).1, (N' p hp).2⟩
    refine wpAny_assign_Name (wpAny_storeName_local hx F₁.ns (fun h₂ hn₂ hs₂ => ?_) hp)
    have F₂ := F₁.set hn₂ hs₂
    obtain ⟨oI, hoI, hcI, hdI⟩ := id hit₁
    have hoI₂ : h₂.get? s.heap.objs.size = some oI := (hs₂.2 _ (Ne.symm hLI)).trans hoI
    have N₂ : News g env.locals h₂ ((s.heap.objs.size, oI) :: news') := fun p hp => by
      rcases List.mem_cons.mp hp with rfl | hp
      · exact ⟨hoI₂, Ne.symm hLI, hgI⟩
      · exact (N₁.set hs₂) p hp
    refine wpAny_mono (wpAny_passesOwn hE (step i its[i] m' news' g h₂ _ s.heap.objs.size oI hlt' (by simp [hlt']) T hCg hJ hof (Heap.lt_size hoI₂) F₂ N₂)) (fun f s₃ h₃ => ?_) fun _ _ e => e
    cases f with
    | ret v => exact h₃
    | brk => exact h₃
    | cont =>
      obtain ⟨_, g₃, h₃', tk₃, m₃, news₃, rfl, T₃, C₃, F₃, N₃, ho₃, hJ₃⟩ := h₃
      exact ⟨its.size + 1 - (i + 1), by omega, g₃, h₃', tk₃, m₃, news₃, i + 1, rfl, T₃, C₃, ⟨oI, (N₃ _ (.head _)).1, hcI, hdI⟩, F₃, fun p hp => N₃ p (.tail _ hp), ho₃, hJ₃, hlt', rfl⟩
    | next =>
      obtain ⟨_, g₃, h₃', tk₃, m₃, news₃, rfl, T₃, C₃, F₃, N₃, ho₃, hJ₃⟩ := h₃
      exact ⟨its.size + 1 - (i + 1), by omega, g₃, h₃', tk₃, m₃, news₃, i + 1, rfl, T₃, C₃, ⟨oI, (N₃ _ (.head _)).1, hcI, hdI⟩, F₃, fun p hp => N₃ p (.tail _ hp), ho₃, hJ₃, hlt', rfl⟩
  · have hin : i = its.size := by omega
    subst hin
    refine wpAny_pyNext_list_end hh hit' hl' (by simp) fun h₁ he₁ => wpAny_execs_nil ?_
    have F₁ : Fr g env.locals h₁ m' := ⟨F'.ns.at' fun o e => he₁ _ _ hLI e, fun b o e => he₁ _ _ (fun q => by rw [q, hgI] at e; cases e) (F'.keep b o e), F'.above⟩
    exact done g h₁ _ m' news' T hCg F₁ (fun p hp => ⟨he₁ _ _ (hn' p hp) (N' p hp).1, (N' p hp).2⟩) hJ
end
end Mine
namespace Mine
open PySem PySem.Calls PySem.Spec
section
variable {prog : Program} {w : World} {A : Around} {E : Value → Shared → Prop} {s : Shared} {g : Heap} {env : Env} {x : Str} {body : List Stmt} {Q : Flow → Shared → Prop} {m : Str → Option Value} {news : List (Addr × Obj)} {r : Addr} {n : Nat} {t₀ u₀ v₀ : Tok}
/-- a loop over range(n) that may turn objects of the ledger -/
theorem forRange {L : Addr} (hL : env.locals = L) (hh : A.handled = none) (hr : IsRange s.heap r 0 (n : Int) 1 t₀ u₀ v₀) (hsmall : Builtin.Range.small 0 (n : Int) 1 = true) (hn : Builtin.Range.rangeSize 0 (n : Int) 1 = (n : Int)) (F : Fr g L s.heap m) (N : News g L s.heap news)
    (J : Nat → (Str → Option Value) → List (Addr × Obj) → Prop) (h0 : J 0 m news)
    (step : ∀ (i : Nat) (t : Tok) (m₁ : Str → Option Value) (news₁ : List (Addr × Obj)) (h : Heap) (tk : Nat) (own : List (Addr × Obj)), i < n → J i m₁ news₁ → OffZ s.heap.objs.size 1 news₁ → @LT.lt Nat _ s.heap.objs.size h.objs.size → (∀ p ∈ own, p.1 = s.heap.objs.size) → (∃ oI, (s.heap.objs.size, oI) ∈ own) →
      Fr g L h (fun y => if y = x then some (.int (i : Int) t) else m₁ y) → News g L h (own ++ news₁) →
      wpAny (model prog w) A (execs body env) (TurnL g L own s.heap.objs.size 1 (J (i + 1)) s Q) E { s with heap := h, toks := tk })
    (done : ∀ (h : Heap) (tk : Nat) (m' : Str → Option Value) (news' : List (Addr × Obj)), Fr g L h m' → News g L h news' → J n m' news' → Q .next { s with heap := h, toks := tk }) :
    wpAny (model prog w) A (pyIter (.ref r)) (fun it s₂ => LoopAtV prog w A g env x body Q E it s₂) E s := by
  subst hL
  have hlt : ∀ p ∈ news, @LT.lt Nat _ p.1 s.heap.objs.size := fun p hp => Heap.lt_size (N p hp).1
  refine wpAny_pyIter_range hr hsmall ?_
  have offwr : ∀ {nw : List (Addr × Obj)}, OffZ s.heap.objs.size 1 nw → ∀ p ∈ nw, p.1 ∉ [s.heap.objs.size] := fun {nw} ho p hp hm => by
    have := ho p hp
    rw [List.mem_singleton.mp hm] at this
    omega
  refine ⟨s.heap.objs.size, _, _, _, _, _, m, news, fun i m₁ news₁ => OffZ s.heap.objs.size 1 news₁ ∧ J i m₁ news₁, rfl, (Walks.range hh s.heap.objs.size 0 1 n).bound, ?_, ?_, offwr (fun p hp => .inl (hlt p hp)), (by show IsRangeIter _ _ _ _ _; rw [hn]; simpa using Heap.get?_push_size _ rfl), F.push _, News.pushKeep N _, ⟨fun p hp => .inl (hlt p hp), h0⟩, ?_, ?_⟩
  · intro hm
    exact absurd F.ns.lt ((List.mem_singleton.mp hm) ▸ Nat.lt_irrefl _)
  · intro b hb
    rw [List.mem_singleton.mp hb]
    exact next_is_new F
  · rintro i v m₁ news₁ s₁ own ⟨h, tk, rfl⟩ hi ⟨hi', t, rfl⟩ ⟨ho, hJ⟩ _ hown _ hall hst F₁ N₁
    have hIs : @LT.lt Nat _ s.heap.objs.size h.objs.size := Heap.lt_size hst
    have e1 : (0 + (i : Int) * 1) = (i : Int) := by omega
    rw [e1] at F₁
    refine wpAny_mono (step i t m₁ news₁ h tk own hi' hJ ho hIs (fun p hp => List.mem_singleton.mp (hown p hp)) ⟨_, hall _ (List.mem_singleton.mpr rfl) (next_is_new F) _ hst⟩ F₁ N₁) (fun f s₂ h₂ => ?_) fun _ _ e => e
    cases f with
    | ret v => exact h₂
    | brk => exact h₂
    | next =>
      obtain ⟨_, h', tk', m₂, news₂, rfl, F₂, N₂, ho₂, hJ₂⟩ := h₂
      exact ⟨rfl, h', tk', m₂, news₂, rfl, F₂, N₂, offwr ho₂, ho₂, hJ₂⟩
    | cont =>
      obtain ⟨_, h', tk', m₂, news₂, rfl, F₂, N₂, ho₂, hJ₂⟩ := h₂
      exact ⟨rfl, h', tk', m₂, news₂, rfl, F₂, N₂, offwr ho₂, ho₂, hJ₂⟩
  · rintro h' tk m' news' F' N' _ ⟨_, hJ⟩
    exact done h' tk m' news' F' N' hJ
/-- a list of the ledger grows by one -/
theorem append_led {h₀ : Heap} {L D : Addr} {its : Array Value} {n : Nat} {v : Value} {R : Value → Shared → Prop} (F : Fr h₀ L s.heap m) (N : News h₀ L s.heap news) (hD : (D, listOf its n) ∈ news) (hsz : its.size < 100000)
    (h : ∀ h', Back h₀ L m [D] s.heap h' → News h₀ L h' [(D, listOf (its.push v) (n + 1))] → R .none { s with heap := h' }) : wpAny (model prog w) A (call (.builtin "list.append") [.ref D, v]) R E s := by
  have hd := N _ hD
  refine append_at hd.1 (fun h' hs hD' => ?_) (by rw [sizeLine_eq]; omega)
  refine h h' ⟨⟨F.ns.sameBut hs (Ne.symm hd.2.1), fun b o e => (hs.2 b (fun q => ?_)).trans (F.keep b o e), F.above⟩, fun b o e _ hb => (hs.2 b (fun q => hb (List.mem_singleton.mpr q))).trans e⟩ (List.forall_mem_cons.mpr ⟨⟨hD', hd.2⟩, List.forall_mem_nil _⟩)
  rw [q, hd.2.2] at e
  cases e
end
end Mine
namespace Mine
open PySem PySem.Calls PySem.Spec
/-- what stands fast in the law's world -/
structure Fx where
  (pool cells plans picks : Addr) (np nc nl nk : Nat) (loc dloc c : Fin 3 → Addr) (ad sz : Fin 3 → Int) (cn : Fin 3 → Nat) (x dx le pk : Fin 2 → Addr) (t0 t1 t2 t3 t4 ta ts ca cs c1 c2 : Fin 3 → Tok)
structure Lv where
  (al dal : Addr) (low high : Option Int) (tl th t5 t6 u v : Tok)
structure Cv where
  (low high : Option Int) (tl th : Tok)
structure Ev where
  (en den : Addr) (k : Tok) (i : Fin 3)
structure Pv where
  (n : Nat) (t0 t1 : Tok) (es : List Ev)
structure Kv where
  (n : Nat) (is : List (Fin 3 × Tok))
/-- what turns in the law's world -/
structure Sv where
  (lv : Fin 3 → Lv) (cv : Fin 3 → Cv) (pv : Fin 2 → Pv) (kv : Fin 2 → Kv)
abbrev lcOf (f : Fx) (v : Sv) (j : Fin 3) : Lc :=
  ⟨f.loc j, f.dloc j, (v.lv j).al, (v.lv j).dal, f.ad j, f.sz j, (v.lv j).low, (v.lv j).high, f.t0 j, f.t1 j, f.t2 j, f.t3 j, f.t4 j, f.ta j, f.ts j, (v.lv j).tl, (v.lv j).th, (v.lv j).t5, (v.lv j).t6, (v.lv j).u, (v.lv j).v⟩
abbrev enOf (f : Fx) (v : Sv) (e : Ev) : En := ⟨e.en, e.den, e.k, lcOf f v e.i⟩
abbrev ensOf (f : Fx) (v : Sv) (d : Fin 2) : List En := (v.pv d).es.map (enOf f v)
abbrev cellN (f : Fx) (v : Sv) (j : Fin 3) : Addr × Obj := (f.c j, listOf (cellOf (f.ad j) (f.sz j) (v.cv j).low (v.cv j).high (f.ca j) (f.cs j) (v.cv j).tl (v.cv j).th (f.c1 j) (f.c2 j)).toArray (f.cn j))
abbrev pickVs (v : Sv) (d : Fin 2) : List Value := (v.kv d).is.map fun p => .int ((p.1.val : Nat) : Int) p.2
abbrev pickN (f : Fx) (v : Sv) (d : Fin 2) : Addr × Obj := (f.pk d, listOf (pickVs v d).toArray (v.kv d).n)
abbrev planN (w : World) (f : Fx) (v : Sv) (d : Fin 2) : List (Addr × Obj) :=
  [(f.x d, instObj 255 (f.dx d)), (f.dx d, dictOf (didEs w (v.pv d).t0 (v.pv d).t1 (f.le d) (vD (!(v.pv d).es.isEmpty))) 2), (f.le d, listOf (itsOf (ensOf f v d)) (v.pv d).n)]
abbrev ev2 (w : World) (f : Fx) (e : Ev) : List (Addr × Obj) := [(e.en, instObj 206 e.den), (e.den, dictOf [ent w (Str.ofString "memloc") e.k (.ref (f.loc e.i))] 1)]
abbrev topN (f : Fx) : List (Addr × Obj) :=
  [(f.pool, listOf #[.ref (f.loc 0), .ref (f.loc 1), .ref (f.loc 2)] f.np), (f.cells, listOf #[.ref (f.c 0), .ref (f.c 1), .ref (f.c 2)] f.nc), (f.plans, listOf #[.ref (f.x 0), .ref (f.x 1)] f.nl), (f.picks, listOf #[.ref (f.pk 0), .ref (f.pk 1)] f.nk)]
/-- the law's world as a ledger -/
def Wd (w : World) (f : Fx) (v : Sv) : List (Addr × Obj) :=
  topN f ++ [cellN f v 0, cellN f v 1, cellN f v 2, pickN f v 0, pickN f v 1] ++ (lcNews w (lcOf f v 0) ++ lcNews w (lcOf f v 1) ++ lcNews w (lcOf f v 2)) ++ (planN w f v 0 ++ planN w f v 1) ++ ((v.pv 0).es.flatMap (ev2 w f) ++ (v.pv 1).es.flatMap (ev2 w f))
theorem all3 {P : Fin 3 → Prop} (j : Fin 3) (h0 : P 0) (h1 : P 1) (h2 : P 2) : P j := match j with
  | 0 => h0
  | 1 => h1
  | 2 => h2
theorem all2 {P : Fin 2 → Prop} (d : Fin 2) (h0 : P 0) (h1 : P 1) : P d := match d with
  | 0 => h0
  | 1 => h1
section
variable {w : World} {f : Fx} {v : Sv} {h₀ h : Heap} {L : Addr}
theorem mem_Wd {p : Addr × Obj} : p ∈ Wd w f v ↔ p ∈ topN f ∨ (∃ j, p = cellN f v j) ∨ (∃ d, p = pickN f v d) ∨ (∃ j, p ∈ lcNews w (lcOf f v j)) ∨ (∃ d, p ∈ planN w f v d) ∨ (∃ d, ∃ e ∈ (v.pv d).es, p ∈ ev2 w f e) := by
  unfold Wd
  rw [List.mem_append, List.mem_append, List.mem_append, List.mem_append]
  constructor
  · rintro ((((h | h) | h) | h) | h)
    · exact .inl h
    · simp only [List.mem_cons, List.not_mem_nil, or_false] at h
      rcases h with h | h | h | h | h
      · exact .inr (.inl ⟨0, h⟩)
      · exact .inr (.inl ⟨1, h⟩)
      · exact .inr (.inl ⟨2, h⟩)
      · exact .inr (.inr (.inl ⟨0, h⟩))
      · exact .inr (.inr (.inl ⟨1, h⟩))
    · rw [List.mem_append, List.mem_append] at h
      rcases h with (h | h) | h
      · exact .inr (.inr (.inr (.inl ⟨0, h⟩)))
      · exact .inr (.inr (.inr (.inl ⟨1, h⟩)))
      · exact .inr (.inr (.inr (.inl ⟨2, h⟩)))
    · rw [List.mem_append] at h
      rcases h with h | h
      · exact .inr (.inr (.inr (.inr (.inl ⟨0, h⟩))))
      · exact .inr (.inr (.inr (.inr (.inl ⟨1, h⟩))))
    · rw [List.mem_append] at h
      rcases h with h | h
      · exact .inr (.inr (.inr (.inr (.inr ⟨0, List.mem_flatMap.mp h⟩))))
      · exact .inr (.inr (.inr (.inr (.inr ⟨1, List.mem_flatMap.mp h⟩))))
  · rintro (h | ⟨j, h⟩ | ⟨d, h⟩ | ⟨j, h⟩ | ⟨d, h⟩ | ⟨d, h⟩)
    · exact .inl (.inl (.inl (.inl h)))
    · refine .inl (.inl (.inl (.inr ?_)))
      match j, h with
      | 0, h => exact h ▸ .head _
      | 1, h => exact h ▸ .tail _ (.head _)
      | 2, h => exact h ▸ .tail _ (.tail _ (.head _))
    · refine .inl (.inl (.inl (.inr ?_)))
      match d, h with
      | 0, h => exact h ▸ .tail _ (.tail _ (.tail _ (.head _)))
      | 1, h => exact h ▸ .tail _ (.tail _ (.tail _ (.tail _ (.head _))))
    · refine .inl (.inl (.inr ?_))
      rw [List.mem_append, List.mem_append]
      match j, h with
      | 0, h => exact .inl (.inl h)
      | 1, h => exact .inl (.inr h)
      | 2, h => exact .inr h
    · refine .inl (.inr ?_)
      rw [List.mem_append]
      match d, h with
      | 0, h => exact .inl h
      | 1, h => exact .inr h
    · refine .inr ?_
      rw [List.mem_append]
      match d, h with
      | 0, h => exact .inl (List.mem_flatMap.mpr h)
      | 1, h => exact .inr (List.mem_flatMap.mpr h)
theorem wd_top : ∀ p ∈ topN f, p ∈ Wd w f v := fun _ h => mem_Wd.mpr (.inl h)
theorem wd_cell (j : Fin 3) : cellN f v j ∈ Wd w f v := mem_Wd.mpr (.inr (.inl ⟨j, rfl⟩))
theorem wd_pick (d : Fin 2) : pickN f v d ∈ Wd w f v := mem_Wd.mpr (.inr (.inr (.inl ⟨d, rfl⟩)))
theorem wd_lc (j : Fin 3) : ∀ p ∈ lcNews w (lcOf f v j), p ∈ Wd w f v := fun _ h => mem_Wd.mpr (.inr (.inr (.inr (.inl ⟨j, h⟩))))
theorem wd_plan (d : Fin 2) : ∀ p ∈ planN w f v d, p ∈ Wd w f v := fun _ h => mem_Wd.mpr (.inr (.inr (.inr (.inr (.inl ⟨d, h⟩)))))
theorem wd_ev {d : Fin 2} {e : Ev} (he : e ∈ (v.pv d).es) : ∀ p ∈ ev2 w f e, p ∈ Wd w f v := fun _ h => mem_Wd.mpr (.inr (.inr (.inr (.inr (.inr ⟨d, e, he, h⟩)))))
theorem wd_en {d : Fin 2} {e : Ev} (he : e ∈ (v.pv d).es) : ∀ p ∈ entNews w (enOf f v e), p ∈ Wd w f v := fun p h => by
  rcases List.mem_cons.mp h with h | h
  · exact wd_ev he p (h ▸ .head _)
  rcases List.mem_cons.mp h with h | h
  · exact wd_ev he p (h ▸ .tail _ (.head _))
  · exact wd_lc e.i p h
theorem wd_did (d : Fin 2) : ∀ p ∈ didNews w (f.x d) (f.dx d) (f.le d) (v.pv d).n (v.pv d).t0 (v.pv d).t1 (ensOf f v d), p ∈ Wd w f v := fun p h => by
  rcases List.mem_cons.mp h with h | h
  · exact wd_plan d p (h ▸ .head _)
  rcases List.mem_cons.mp h with h | h
  · refine wd_plan d p ?_
    rw [h, List.isEmpty_map]
    exact .tail _ (.head _)
  rcases List.mem_cons.mp h with h | h
  · exact wd_plan d p (h ▸ .tail _ (.tail _ (.head _)))
  · obtain ⟨e, he, h⟩ := List.mem_flatMap.mp h
    obtain ⟨e', he', rfl⟩ := List.mem_map.mp he
    exact wd_en he' p h
/-- locations and cells agree, plans and picks agree -/
structure Inv (f : Fx) (v : Sv) : Prop where
  ok : ∀ j, LcOk (lcOf f v j)
  low : ∀ j, (v.cv j).low = (v.lv j).low
  high : ∀ j, (v.cv j).high = (v.lv j).high
  picks : ∀ d, (v.kv d).is.map (·.1) = (v.pv d).es.map (·.i)
  small : ∀ d, (v.pv d).es.length < 1000
end
end Mine
namespace Mine
open PySem PySem.Calls PySem.Spec
abbrev msOf (f : Fx) (v : Sv) (d : Fin 2) : List Int := (v.kv d).is.map fun p => mk (lcOf f v p.1)
theorem news5 {h₀ h : Heap} {L : Addr} {news : List (Addr × Obj)} {a b c d e : Addr × Obj} (N : News h₀ L h news) (x : a ∈ news) (y : b ∈ news) (z : c ∈ news) (u : d ∈ news) (v : e ∈ news) : News h₀ L h [a, b, c, d, e] :=
  List.forall_mem_cons.mpr ⟨N _ x, news4 N y z u v⟩
theorem news1 {h₀ h : Heap} {L : Addr} {news : List (Addr × Obj)} {a : Addr × Obj} (N : News h₀ L h news) (x : a ∈ news) : News h₀ L h [a] := List.forall_mem_cons.mpr ⟨N _ x, List.forall_mem_nil _⟩
section
variable {prog : Program} {w : World} {A : Around} {E Q : Value → Shared → Prop} {s : Shared} {h₀ : Heap} {L D : Addr} {news : List (Addr × Obj)} {f : Fx} {u : Tok} {value slice : Expr} {c : Nat} {its : Array Value}
theorem item_led {x : Value} {k : Int} (N : News h₀ L s.heap news) (hm : (D, listOf its c) ∈ news) (h0 : 0 ≤ k) (hfit : k < 2 ^ 63) (hx : its[k.toNat]? = some x) (h : Q x s)
    (hs : subscripted slice false (.ref D) (.int k u) = operate [.ref D, .int k u] (getItem (.ref D) (.int k u)) := by with_unfolding_all rfl) (hg : ∀ r, letTemporaryGo value (.ref D) r = pure () := by intro _; with_unfolding_all rfl) :
    wpAny (model prog w) A (subscriptTail value slice (.ref D) (.int k u)) Q E s := item_list (N.isList hm) h0 hfit hx h hs hg
theorem fin3_get (g : Fin 3 → Value) (i : Fin 3) : (#[g 0, g 1, g 2] : Array Value)[((i.val : Nat) : Int).toNat]? = some (g i) := match i with
  | 0 => rfl
  | 1 => rfl
  | 2 => rfl
theorem fin2_get (g : Fin 2 → Value) (i : Fin 2) : (#[g 0, g 1] : Array Value)[((i.val : Nat) : Int).toNat]? = some (g i) := match i with
  | 0 => rfl
  | 1 => rfl
theorem item3 (g : Fin 3 → Value) {i : Fin 3} (N : News h₀ L s.heap news) (hm : (D, listOf #[g 0, g 1, g 2] c) ∈ news) (h : Q (g i) s)
    (hs : subscripted slice false (.ref D) (.int ((i.val : Nat) : Int) u) = operate [.ref D, .int ((i.val : Nat) : Int) u] (getItem (.ref D) (.int ((i.val : Nat) : Int) u)) := by with_unfolding_all rfl) (hg : ∀ r, letTemporaryGo value (.ref D) r = pure () := by intro _; with_unfolding_all rfl) :
    wpAny (model prog w) A (subscriptTail value slice (.ref D) (.int ((i.val : Nat) : Int) u)) Q E s :=
  item_led N hm (Int.natCast_nonneg _) (by have := i.isLt; omega) (fin3_get g i) h hs hg
theorem item2 (g : Fin 2 → Value) {i : Fin 2} (N : News h₀ L s.heap news) (hm : (D, listOf #[g 0, g 1] c) ∈ news) (h : Q (g i) s)
    (hs : subscripted slice false (.ref D) (.int ((i.val : Nat) : Int) u) = operate [.ref D, .int ((i.val : Nat) : Int) u] (getItem (.ref D) (.int ((i.val : Nat) : Int) u)) := by with_unfolding_all rfl) (hg : ∀ r, letTemporaryGo value (.ref D) r = pure () := by intro _; with_unfolding_all rfl) :
    wpAny (model prog w) A (subscriptTail value slice (.ref D) (.int ((i.val : Nat) : Int) u)) Q E s :=
  item_led N hm (Int.natCast_nonneg _) (by have := i.isLt; omega) (fin2_get g i) h hs hg
theorem len_led {n : Nat} (N : News h₀ L s.heap news) (hm : (D, listOf its c) ∈ news) (hs : its.size = n) (hf : n < 100000) (h : ∀ t k, Q (.int ((n : Nat) : Int) t) { s with toks := k }) :
    wpAny (model prog w) A (call (.builtin "len") [.ref D]) Q E s := by
  refine len_list (N.isList hm) (by omega) ?_
  rw [hs]
  exact h _ _
end
theorem ms_ens {f : Fx} {v : Sv} (I : Inv f v) (d : Fin 2) : msOf f v d = (ensOf f v d).map fun e => mk e.l := by
  have h1 : msOf f v d = ((v.kv d).is.map (·.1)).map fun j => mk (lcOf f v j) := by rw [List.map_map]; rfl
  rw [h1, I.picks d, List.map_map, List.map_map]
  rfl
theorem flat_rep (n : Nat) (x : Int) : (List.replicate n [x]).flatten = List.replicate n x := by
  induction n with
  | zero => rfl
  | succ k ih => rw [List.replicate_succ, List.flatten_cons, ih]; rfl
theorem alike_ms {f : Fx} {v : Sv} {d : Fin 2} (I : Inv f v) {b : Bool} (hb : b = true ↔ (ensOf f v d ≠ [] ∧ Alike (ensOf f v d))) (hn : 0 < (((v.pv d).es.length : Nat) : Int)) :
    decide (msOf f v d = (List.replicate (((v.pv d).es.length : Nat) : Int).toNat [(msOf f v d).getD (Int.toNat 0) 0]).flatten) = b := by
  have hlen : (msOf f v d).length = (v.pv d).es.length := by rw [ms_ens I, List.length_map, List.length_map]
  have key : (msOf f v d = (List.replicate (((v.pv d).es.length : Nat) : Int).toNat [(msOf f v d).getD (Int.toNat 0) 0]).flatten) ↔ (ensOf f v d ≠ [] ∧ Alike (ensOf f v d)) := by
    rw [flat_rep, Int.toNat_natCast, ← hlen, List.eq_replicate_iff, ms_ens I]
    have hne : ensOf f v d ≠ [] := fun q => by
      have := congrArg List.length q
      rw [List.length_map] at this
      simp only [List.length_nil] at this
      omega
    constructor
    · rintro ⟨_, h⟩
      refine ⟨hne, fun e he e' he' => ?_⟩
      rw [h _ (List.mem_map_of_mem he), h _ (List.mem_map_of_mem he')]
    · rintro ⟨_, h⟩
      refine ⟨rfl, fun x hx => ?_⟩
      obtain ⟨e, he, rfl⟩ := List.mem_map.mp hx
      cases hE : ensOf f v d with
      | nil => exact absurd hE hne
      | cons e0 r =>
        show mk e.l = mk e0.l
        exact h e he e0 (hE ▸ List.mem_cons_self)
  cases b with
  | true => exact decide_eq_true (key.mpr (hb.mp rfl))
  | false => exact decide_eq_false fun q => Bool.noConfusion (hb.mpr (key.mp q))
section
variable {M : Model} {A : Around} {E : Value → Shared → Prop} {s : Shared} {env : Env} {st : Stmt} {rest : List Stmt} {Q : Flow → Shared → Prop} {h₀ : Heap} {L : Addr} {m : Str → Option Value}
theorem joinV {news : List (Addr × Obj)} (y : Str) (v : Value) (F : Fr h₀ L s.heap m) (N : News h₀ L s.heap news)
    (h1 : wpAny M A (exec st env) (fun f s' => Stop (f = .next ∧ ∃ h' tk, s' = { s with heap := h', toks := tk } ∧ Fr h₀ L h' (fun z => if z = y then some v else m z) ∧ News h₀ L h' news)) E s)
    (h2 : ∀ h' tk, Fr h₀ L h' (fun z => if z = y then some v else m z) → News h₀ L h' news → wpAny M A (execs rest env) Q E { s with heap := h', toks := tk }) : wpAny M A (execs (st :: rest) env) Q E s := by
  refine wpAny_execs_cons (wpAny_mono h1 (fun f s' x => ?_) fun _ _ y => y)
  obtain ⟨rfl, h', tk, rfl, F', N'⟩ := x
  exact h2 h' tk F' N'
theorem joinI {news : List (Addr × Obj)} (y : Str) (v : Int) (F : Fr h₀ L s.heap m) (N : News h₀ L s.heap news)
    (h1 : wpAny M A (exec st env) (fun f s' => Stop (f = .next ∧ ∃ h' tk t', s' = { s with heap := h', toks := tk } ∧ Fr h₀ L h' (fun z => if z = y then some (.int v t') else m z) ∧ News h₀ L h' news)) E s)
    (h2 : ∀ h' tk t', Fr h₀ L h' (fun z => if z = y then some (.int v t') else m z) → News h₀ L h' news → wpAny M A (execs rest env) Q E { s with heap := h', toks := tk }) : wpAny M A (execs (st :: rest) env) Q E s := by
  refine wpAny_execs_cons (wpAny_mono h1 (fun f s' x => ?_) fun _ _ y => y)
  obtain ⟨rfl, h', tk, t', rfl, F', N'⟩ := x
  exact h2 h' tk t' F' N'
end
end Mine
namespace Mine
open PySem PySem.Calls PySem.Spec
theorem ne_key {w : World} {k1 k2 : Str} {t t' : Tok} {x x' : Value} {r r' : List DictEntry} {n n' : Nat} (hk : k1 ≠ k2) : dictOf (ent w k1 t x :: r) n ≠ dictOf (ent w k2 t' x' :: r') n' := fun h => by
  have h1 : Data.dict (ent w k1 t x :: r).toArray n = Data.dict (ent w k2 t' x' :: r').toArray n' := congrArg Obj.data h
  injection h1 with h2 _
  have h4 : ent w k1 t x :: r = ent w k2 t' x' :: r' := by
    have := congrArg Array.toList h2
    simpa using this
  injection h4 with h5 _
  injection h5 with _ h6 _
  injection h6 with h7 _
  exact hk h7
theorem ne_data {o o' : Obj} (h : o.data ≠ o'.data) : o ≠ o' := fun e => h (congrArg Obj.data e)
/-- two places of one ledger with different objects are apart -/
theorem apart_of {h₀ h : Heap} {L : Addr} {news : List (Addr × Obj)} (N : News h₀ L h news) {p q : Addr × Obj} (hp : p ∈ news) (hq : q ∈ news) (hne : p.2 ≠ q.2) : p.1 ≠ q.1 := fun e => by
  have h1 := (N p hp).1
  have h2 := (N q hq).1
  rw [e, h2] at h1
  exact hne (Option.some.inj h1).symm
theorem inst_ne_dict {c d : Addr} {es : List DictEntry} {n : Nat} : instObj c d ≠ dictOf es n := ne_data (fun h => by cases h)
theorem inst_ne_list {c d : Addr} {its : Array Value} {n : Nat} : instObj c d ≠ listOf its n := ne_data (fun h => by cases h)
theorem dict_ne_list {es : List DictEntry} {m n : Nat} {its : Array Value} : dictOf es m ≠ listOf its n := ne_data (fun h => by cases h)
/-- the fixed places are apart -/
structure FxOk (f : Fx) : Prop where
  dd : ∀ i j, i ≠ j → f.dloc i ≠ f.dloc j
  dx : ∀ i j, i ≠ j → f.dx i ≠ f.dx j
  cc : ∀ i j, i ≠ j → f.c i ≠ f.c j
  le : ∀ i j, i ≠ j → f.le i ≠ f.le j
  pk : ∀ i j, i ≠ j → f.pk i ≠ f.pk j
  cl : ∀ i d, f.c i ≠ f.le d
  cp : ∀ i d, f.c i ≠ f.pk d
  lp : ∀ d e, f.le d ≠ f.pk e
  top : ∀ p ∈ topN f, (∀ i, p.1 ≠ f.c i) ∧ (∀ d, p.1 ≠ f.le d) ∧ (∀ d, p.1 ≠ f.pk d)
abbrev setL (v : Sv) (j : Fin 3) (l : Lv) : Sv := { v with lv := fun i => if i = j then l else v.lv i }
theorem its_setL {f : Fx} {v : Sv} {j : Fin 3} {l : Lv} (d : Fin 2) : itsOf (ensOf f (setL v j l) d) = itsOf (ensOf f v d) := by
  show (List.map _ (List.map _ _)).toArray = (List.map _ (List.map _ _)).toArray
  rw [List.map_map, List.map_map]; rfl
theorem upd_lv {w : World} {f : Fx} {v : Sv} {h₀ h h' : Heap} {L : Addr} {m : Str → Option Value} {j : Fin 3} {l : Lv} (O : FxOk f) (N : News h₀ L h (Wd w f v)) (K : Back h₀ L m [f.dloc j] h h') (NN : News h₀ L h' (lcNews w (lcOf f (setL v j l) j))) :
    News h₀ L h' (Wd w f (setL v j l)) := by
  have hd : (f.dloc j, dictOf (locEs w (f.t0 j) (f.t1 j) (f.t2 j) (f.t3 j) (f.t4 j) (.int (f.ad j) (f.ta j)) (.int (f.sz j) (f.ts j)) (vO (v.lv j).low (v.lv j).tl) (vO (v.lv j).high (v.lv j).th) (.ref (v.lv j).al)) 5) ∈ Wd w f v := wd_lc j _ (.tail _ (.head _))
  have keep : ∀ p ∈ Wd w f v, p.1 ≠ f.dloc j → h'.get? p.1 = some p.2 ∧ p.1 ≠ L ∧ h₀.get? p.1 = none := fun p hp hne => ⟨K.2 _ _ (N p hp).1 (N p hp).2.1 (fun q => hne (List.mem_singleton.mp q)), (N p hp).2⟩
  intro p hp
  rcases mem_Wd.mp hp with hp | ⟨i, rfl⟩ | ⟨d, rfl⟩ | ⟨i, hp⟩ | ⟨d, hp⟩ | ⟨d, e, he, hp⟩
  · refine keep p (wd_top p hp) (apart_of N (wd_top p hp) hd ?_)
    simp only [List.mem_cons, List.not_mem_nil, or_false] at hp
    rcases hp with rfl | rfl | rfl | rfl <;> exact Ne.symm dict_ne_list
  · exact keep _ (wd_cell (v := v) i) (apart_of N (wd_cell (v := v) i) hd (Ne.symm dict_ne_list))
  · exact keep _ (wd_pick (v := v) d) (apart_of N (wd_pick (v := v) d) hd (Ne.symm dict_ne_list))
  · by_cases hij : i = j
    · subst hij; exact NN p hp
    · have e1 : (setL v j l).lv i = v.lv i := if_neg hij
      have hp' : p ∈ lcNews w (lcOf f v i) := by
        rw [show lcOf f (setL v j l) i = lcOf f v i by unfold lcOf; rw [e1]] at hp
        exact hp
      refine keep p (wd_lc i p hp') ?_
      simp only [List.mem_cons, List.not_mem_nil, or_false] at hp'
      rcases hp' with rfl | rfl | rfl | rfl
      · exact apart_of N (wd_lc i _ (.head _)) hd inst_ne_dict
      · exact O.dd i j hij
      · exact apart_of N (wd_lc i _ (.tail _ (.tail _ (.head _)))) hd inst_ne_dict
      · exact apart_of N (wd_lc i _ (.tail _ (.tail _ (.tail _ (.head _))))) hd (ne_key (by decide))
  · have hp' : p ∈ planN w f v d := by
      rw [show planN w f (setL v j l) d = planN w f v d by unfold planN; rw [its_setL]] at hp
      exact hp
    refine keep p (wd_plan d p hp') ?_
    simp only [List.mem_cons, List.not_mem_nil, or_false] at hp'
    rcases hp' with rfl | rfl | rfl
    · exact apart_of N (wd_plan d _ (.head _)) hd inst_ne_dict
    · exact apart_of N (wd_plan d _ (.tail _ (.head _))) hd (ne_key (by decide))
    · exact apart_of N (wd_plan d _ (.tail _ (.tail _ (.head _)))) hd (Ne.symm dict_ne_list)
  · have he' : e ∈ (v.pv d).es := he
    refine keep p (wd_ev he' p hp) ?_
    simp only [List.mem_cons, List.not_mem_nil, or_false] at hp
    rcases hp with rfl | rfl
    · exact apart_of N (wd_ev he' _ (.head _)) hd inst_ne_dict
    · exact apart_of N (wd_ev he' _ (.tail _ (.head _))) hd (ne_key (by decide))
abbrev setC (v : Sv) (j : Fin 3) (c : Cv) : Sv := { v with cv := fun i => if i = j then c else v.cv i }
abbrev setK (v : Sv) (d : Fin 2) (k : Kv) : Sv := { v with kv := fun e => if e = d then k else v.kv e }
abbrev setP (v : Sv) (d : Fin 2) (p : Pv) : Sv := { v with pv := fun e => if e = d then p else v.pv e }
/-- a place at which a list stands is apart from instances and dicts -/
theorem list_off {w : World} {f : Fx} {v : Sv} {h₀ h : Heap} {L a : Addr} {its : Array Value} {n : Nat} (N : News h₀ L h (Wd w f v)) (ha : (a, listOf its n) ∈ Wd w f v) :
    (∀ i, ∀ p ∈ lcNews w (lcOf f v i), p.1 ≠ a) ∧ (∀ d, f.x d ≠ a ∧ f.dx d ≠ a) ∧ (∀ d, ∀ e ∈ (v.pv d).es, ∀ p ∈ ev2 w f e, p.1 ≠ a) := by
  refine ⟨fun i p hp => ?_, fun d => ⟨?_, ?_⟩, fun d e he p hp => ?_⟩
  · refine apart_of N (wd_lc i p hp) ha ?_
    simp only [List.mem_cons, List.not_mem_nil, or_false] at hp
    rcases hp with rfl | rfl | rfl | rfl
    · exact inst_ne_list
    · exact dict_ne_list
    · exact inst_ne_list
    · exact dict_ne_list
  · exact apart_of N (wd_plan d _ (.head _)) ha inst_ne_list
  · exact apart_of N (wd_plan d _ (.tail _ (.head _))) ha dict_ne_list
  · refine apart_of N (wd_ev he p hp) ha ?_
    simp only [List.mem_cons, List.not_mem_nil, or_false] at hp
    rcases hp with rfl | rfl
    · exact inst_ne_list
    · exact dict_ne_list
theorem upd_cv {w : World} {f : Fx} {v : Sv} {h₀ h h' : Heap} {L : Addr} {m : Str → Option Value} {j : Fin 3} {c : Cv} (O : FxOk f) (N : News h₀ L h (Wd w f v)) (K : Back h₀ L m [f.c j] h h') (NN : News h₀ L h' [cellN f (setC v j c) j]) :
    News h₀ L h' (Wd w f (setC v j c)) := by
  obtain ⟨o1, o2, o3⟩ := list_off N (wd_cell (v := v) (f := f) (w := w) j)
  have keep : ∀ p ∈ Wd w f v, p.1 ≠ f.c j → h'.get? p.1 = some p.2 ∧ p.1 ≠ L ∧ h₀.get? p.1 = none := fun p hp hne => ⟨K.2 _ _ (N p hp).1 (N p hp).2.1 (fun q => hne (List.mem_singleton.mp q)), (N p hp).2⟩
  intro p hp
  rcases mem_Wd.mp hp with hp | ⟨i, rfl⟩ | ⟨d, rfl⟩ | ⟨i, hp⟩ | ⟨d, hp⟩ | ⟨d, e, he, hp⟩
  · exact keep p (wd_top p hp) ((O.top p hp).1 j)
  · by_cases hij : i = j
    · subst hij; exact NN _ (.head _)
    · have e1 : cellN f (setC v j c) i = cellN f v i := by
        have : (setC v j c).cv i = v.cv i := if_neg hij
        unfold cellN; rw [this]
      rw [e1]
      exact keep _ (wd_cell (v := v) i) (O.cc i j hij)
  · exact keep _ (wd_pick (v := v) d) (Ne.symm (O.cp j d))
  · exact keep p (wd_lc (v := v) i p hp) (o1 i p hp)
  · refine keep p (wd_plan (v := v) d p hp) ?_
    simp only [List.mem_cons, List.not_mem_nil, or_false] at hp
    rcases hp with rfl | rfl | rfl
    · exact (o2 d).1
    · exact (o2 d).2
    · exact Ne.symm (O.cl j d)
  · have he' : e ∈ (v.pv d).es := he
    exact keep p (wd_ev he' p hp) (o3 d e he' p hp)
theorem upd_kv {w : World} {f : Fx} {v : Sv} {h₀ h h' : Heap} {L : Addr} {m : Str → Option Value} {d : Fin 2} {k : Kv} (O : FxOk f) (N : News h₀ L h (Wd w f v)) (K : Back h₀ L m [f.pk d] h h') (NN : News h₀ L h' [pickN f (setK v d k) d]) :
    News h₀ L h' (Wd w f (setK v d k)) := by
  obtain ⟨o1, o2, o3⟩ := list_off N (wd_pick (v := v) (f := f) (w := w) d)
  have keep : ∀ p ∈ Wd w f v, p.1 ≠ f.pk d → h'.get? p.1 = some p.2 ∧ p.1 ≠ L ∧ h₀.get? p.1 = none := fun p hp hne => ⟨K.2 _ _ (N p hp).1 (N p hp).2.1 (fun q => hne (List.mem_singleton.mp q)), (N p hp).2⟩
  intro p hp
  rcases mem_Wd.mp hp with hp | ⟨i, rfl⟩ | ⟨e, rfl⟩ | ⟨i, hp⟩ | ⟨e, hp⟩ | ⟨e, z, he, hp⟩
  · exact keep p (wd_top p hp) ((O.top p hp).2.2 d)
  · exact keep _ (wd_cell (v := v) i) (O.cp i d)
  · by_cases hij : e = d
    · subst hij; exact NN _ (.head _)
    · have e1 : pickN f (setK v d k) e = pickN f v e := by
        have : (setK v d k).kv e = v.kv e := if_neg hij
        unfold pickN pickVs; rw [this]
      rw [e1]
      exact keep _ (wd_pick (v := v) e) (O.pk e d hij)
  · exact keep p (wd_lc (v := v) i p hp) (o1 i p hp)
  · refine keep p (wd_plan (v := v) e p hp) ?_
    simp only [List.mem_cons, List.not_mem_nil, or_false] at hp
    rcases hp with rfl | rfl | rfl
    · exact (o2 e).1
    · exact (o2 e).2
    · exact O.lp e d
  · have he' : z ∈ (v.pv e).es := he
    exact keep p (wd_ev he' p hp) (o3 e z he' p hp)
theorem upd_pv {w : World} {f : Fx} {v : Sv} {h₀ h h' : Heap} {L en den : Addr} {m : Str → Option Value} {d : Fin 2} {i : Fin 3} {k0 k1 k2 : Tok} (O : FxOk f) (N : News h₀ L h (Wd w f v)) (K : Back h₀ L m [f.dx d, f.le d] h h')
    (NN : News h₀ L h' [(en, instObj 206 den), (den, dictOf [ent w (Str.ofString "memloc") k0 (.ref (f.loc i))] 1), (f.x d, instObj 255 (f.dx d)), (f.dx d, dictOf (didEs w k1 k2 (f.le d) (.ref 206)) 2), (f.le d, listOf ((itsOf (ensOf f v d)).push (.ref en)) ((v.pv d).n + 1))]) :
    News h₀ L h' (Wd w f (setP v d ⟨(v.pv d).n + 1, k1, k2, (v.pv d).es ++ [⟨en, den, k0, i⟩]⟩)) := by
  have hle := wd_plan (w := w) (f := f) (v := v) d _ (.tail _ (.tail _ (.head _)))
  have hdx := wd_plan (w := w) (f := f) (v := v) d _ (.tail _ (.head _))
  obtain ⟨o1, o2, o3⟩ := list_off N hle
  have keep : ∀ p ∈ Wd w f v, p.1 ≠ f.dx d → p.1 ≠ f.le d → h'.get? p.1 = some p.2 ∧ p.1 ≠ L ∧ h₀.get? p.1 = none := fun p hp h1 h2 => ⟨K.2 _ _ (N p hp).1 (N p hp).2.1 (fun q => by
    simp only [List.mem_cons, List.not_mem_nil, or_false] at q
    exact q.elim h1 h2), (N p hp).2⟩
  intro p hp
  rcases mem_Wd.mp hp with hp | ⟨i, rfl⟩ | ⟨e, rfl⟩ | ⟨i, hp⟩ | ⟨e, hp⟩ | ⟨e, z, he, hp⟩
  · refine keep p (wd_top p hp) (apart_of N (wd_top p hp) hdx ?_) ((O.top p hp).2.1 d)
    simp only [List.mem_cons, List.not_mem_nil, or_false] at hp
    rcases hp with rfl | rfl | rfl | rfl <;> exact Ne.symm dict_ne_list
  · exact keep _ (wd_cell (v := v) i) (apart_of N (wd_cell (v := v) i) hdx (Ne.symm dict_ne_list)) (O.cl i d)
  · exact keep _ (wd_pick (v := v) e) (apart_of N (wd_pick (v := v) e) hdx (Ne.symm dict_ne_list)) (Ne.symm (O.lp d e))
  · have hp' : p ∈ lcNews w (lcOf f v i) := hp
    refine keep p (wd_lc i p hp') (apart_of N (wd_lc i p hp') hdx ?_) (o1 i p hp')
    simp only [List.mem_cons, List.not_mem_nil, or_false] at hp'
    rcases hp' with rfl | rfl | rfl | rfl
    · exact inst_ne_dict
    · exact ne_key (by decide)
    · exact inst_ne_dict
    · exact ne_key (by decide)
  · by_cases hed : e = d
    · subst hed
      have e1 : (setP v e ⟨(v.pv e).n + 1, k1, k2, (v.pv e).es ++ [⟨en, den, k0, i⟩]⟩).pv e = ⟨(v.pv e).n + 1, k1, k2, (v.pv e).es ++ [⟨en, den, k0, i⟩]⟩ := if_pos rfl
      have e2 : ensOf f (setP v e ⟨(v.pv e).n + 1, k1, k2, (v.pv e).es ++ [⟨en, den, k0, i⟩]⟩) e = ensOf f v e ++ [enOf f v ⟨en, den, k0, i⟩] := by
        unfold ensOf; rw [e1, List.map_append]; rfl
      have e3 : itsOf (ensOf f v e ++ [enOf f v ⟨en, den, k0, i⟩]) = (itsOf (ensOf f v e)).push (.ref en) := by
        show (List.map _ _).toArray = (List.map _ _).toArray.push _
        rw [List.map_append]; simp
      have e4 : vD (!((v.pv e).es ++ [(⟨en, den, k0, i⟩ : Ev)]).isEmpty) = .ref 206 := by
        have : ((v.pv e).es ++ [(⟨en, den, k0, i⟩ : Ev)]).isEmpty = false := by cases (v.pv e).es <;> rfl
        rw [this]; rfl
      rcases List.mem_cons.mp hp with hq | hp
      · rw [hq]; exact NN _ (.tail _ (.tail _ (.head _)))
      rcases List.mem_cons.mp hp with hq | hp
      · rw [e1, e4] at hq
        rw [hq]; exact NN _ (.tail _ (.tail _ (.tail _ (.head _))))
      · have hq := List.mem_singleton.mp hp
        rw [e2, e3, e1] at hq
        rw [hq]; exact NN _ (.tail _ (.tail _ (.tail _ (.tail _ (.head _)))))
    · have e1 : (setP v d ⟨(v.pv d).n + 1, k1, k2, (v.pv d).es ++ [⟨en, den, k0, i⟩]⟩).pv e = v.pv e := if_neg hed
      have hp' : p ∈ planN w f v e := by
        have : planN w f (setP v d ⟨(v.pv d).n + 1, k1, k2, (v.pv d).es ++ [⟨en, den, k0, i⟩]⟩) e = planN w f v e := by
          unfold planN ensOf; rw [e1]
        rw [this] at hp
        exact hp
      refine keep p (wd_plan e p hp') ?_ ?_
      · simp only [List.mem_cons, List.not_mem_nil, or_false] at hp'
        rcases hp' with rfl | rfl | rfl
        · exact apart_of N (wd_plan e _ (.head _)) hdx inst_ne_dict
        · exact O.dx e d hed
        · exact apart_of N (wd_plan e _ (.tail _ (.tail _ (.head _)))) hdx (Ne.symm dict_ne_list)
      · simp only [List.mem_cons, List.not_mem_nil, or_false] at hp'
        rcases hp' with rfl | rfl | rfl
        · exact (o2 e).1
        · exact (o2 e).2
        · exact O.le e d hed
  · by_cases hold : z ∈ (v.pv e).es
    · refine keep p (wd_ev hold p hp) (apart_of N (wd_ev hold p hp) hdx ?_) (o3 e z hold p hp)
      simp only [List.mem_cons, List.not_mem_nil, or_false] at hp
      rcases hp with rfl | rfl
      · exact inst_ne_dict
      · exact ne_key (by decide)
    · have hz : z = ⟨en, den, k0, i⟩ := by
        by_cases hed : e = d
        · subst hed
          have e1 : (setP v e ⟨(v.pv e).n + 1, k1, k2, (v.pv e).es ++ [⟨en, den, k0, i⟩]⟩).pv e = ⟨(v.pv e).n + 1, k1, k2, (v.pv e).es ++ [⟨en, den, k0, i⟩]⟩ := if_pos rfl
          rw [e1] at he
          rcases List.mem_append.mp he with he | he
          · exact absurd he hold
          · exact List.mem_singleton.mp he
        · have e1 : (setP v d ⟨(v.pv d).n + 1, k1, k2, (v.pv d).es ++ [⟨en, den, k0, i⟩]⟩).pv e = v.pv e := if_neg hed
          rw [e1] at he
          exact absurd he hold
      subst hz
      simp only [List.mem_cons, List.not_mem_nil, or_false] at hp
      rcases hp with rfl | rfl
      · exact NN _ (.head _)
      · exact NN _ (.tail _ (.head _))
end Mine
namespace Mine
open PySem PySem.Calls PySem.Spec
theorem rs_S1 : True := by w_top off; trivial
local macro_rules | `(tactic| ktr_enter) => `(tactic| (
  refine' enterK ?k1 ?k2 ?k3 ?k4 ?k5 ?kA ?kF ?kK ?k6 ?k7 ?k8 ?k9 ?kB ?_ ?c5 ?c2 ?c3 ?c4;
  (case kA => exact rfl); (case kF => exact rfl); (case kK => first | assumption | exact rfl); (case k1 => assumption); (case k2 => assumption); (case k3 => assumption); (case k4 => assumption); (case k5 => assumption);
  (case k6 => k_is); (case k7 => k_is); (case k8 => first | (simp only [recursionLimit]; omega) | ktr_room); (case k9 => first | exact BindsTo.of_eq rfl | exact binds_K (by k_in) rfl (by k_is) rfl rfl rfl); (case c5 => decide); (case kB => exact locs rfl); (case c2 => exact rfl); (case c3 => exact rfl); (case c4 => exact rfl)))
local macro_rules | `(tactic| walk_at "subscriptTail") => `(tactic| ((with_reducible show wpAny _ _ (subscriptTail _ _ (Value.ref 58) (Value.int _ _)) _ _ _); k_dflt (refine' item58 ?F ?X ?h ?_; (case F => k_asm); (case X => k_asm); (case h => assumption)); intro t'))
local macro_rules | `(tactic| walk_at "subscriptTail") => `(tactic| ((with_reducible show wpAny _ _ (subscriptTail _ _ (Value.ref 57) (Value.int _ _)) _ _ _); k_dflt (refine' item57 ?F ?X ?h ?_; (case F => k_asm); (case X => k_asm); (case h => assumption)); intro t'))
local macro_rules | `(tactic| walk_at "compareOp NotIn int ref") => `(tactic| ((with_reducible show wpAny _ _ (compareOp CmpOp.NotIn (Value.int _ _) (Value.ref 58)) _ _ _); k_dflt (refine' notin58 ?F ?X ?_; (case F => k_asm); (case X => k_asm))))
local macro_rules | `(tactic| walk_at "compareOp NotIn int ref") => `(tactic| ((with_reducible show wpAny _ _ (compareOp CmpOp.NotIn (Value.int _ _) (Value.ref 57)) _ _ _); k_dflt (refine' notin57 ?F ?X ?_; (case F => k_asm); (case X => k_asm))))
local macro_rules | `(tactic| walk_at "binaryOp LShift int int") => `(tactic| (refine lshift_int_small (by decide) (by decide) (by omega) ?_))
local macro_rules | `(tactic| walk_at "call builtin:_struct.pack") => `(tactic| ((with_reducible show wpAny _ _ (call (Value.builtin _) [Value.str _ _, Value.int _ _]) _ _ _); k_dflt (first | (refine' pack_B ?h0 ?h1 ?_; (case h0 => omega); (case h1 => omega)) | (refine' pack_q ?h0 ?h1 ?_; (case h0 => omega); (case h1 => omega))); intro t'))
local macro_rules | `(tactic| ktr_rel) => `(tactic| exact back_led (by assumption) (by assumption) (by assumption) (by assumption) (by assumption) (fun p hp => .inr hp))
local macro_rules | `(tactic| ktr_unf) => `(tactic| first | omega | ((try dsimp only [Around.deeper, Around.in1, Around.mark]); (try simp only [dU, uU]); (try dsimp only [ktrTop, Around.deeper, Around.in1, Around.mark]); omega))
local macro_rules | `(tactic| k_enter) => `(tactic| (ktr_enter; intro g' L' h' kg' lL' FG' F' N' B' X' T'; (try dsimp only); (try k_fold)))
local macro_rules | `(tactic| walk_at "call ref") => `(tactic| (k_here; k_dflt (refine' call_clsK ?k1 ?k2 ?k3 ?k4 ?k5 ?k6 ?_; (case k1 => k_asm); (case k2 => k_asm); (case k3 => k_asm); (case k4 => k_is); (case k5 => k_is); (case k6 => k_is); k_whole; intro x' d' h' x1 l1 l2 F' N'; (try ((have l9 := news_lt (by assumption) l1); (k_lt l9))); (try k_lt2 l1); (try k_lt2 l2); (try k_sweep); k_enter)))

local macro_rules | `(tactic| walk_at "getMethod ref") => `(tactic| ((with_reducible show wpAny _ _ (getMethod (Value.ref 57) (Str.ofString "keys") _) _ _ _); k_dflt (refine' getKeys (D := D8) ?K ?F ?_; (case K => exact map57 (by k_asm)); (case F => k_asm))))
local macro_rules | `(tactic| walk_at "getMethod ref") => `(tactic| ((with_reducible show wpAny _ _ (getMethod (Value.ref 58) (Str.ofString "keys") _) _ _ _); k_dflt (refine' getKeys (D := D8) ?K ?F ?_; (case K => exact map58 (by k_asm)); (case F => k_asm))))
local macro_rules | `(tactic| walk_at "call builtin:dict.keys") => `(tactic| ((with_reducible show wpAny _ _ (call (Value.builtin "dict.keys") [Value.ref 57]) _ _ _); k_dflt (refine' callKeys (D := D8) ?K ?F ?N ?_; (case K => exact map57 (by k_asm)); (case F => k_asm); (case N => k_asm)); intro v9 h9 F9 N9 l9; (try k_lt l9); (try k_sweep)))
local macro_rules | `(tactic| walk_at "call builtin:dict.keys") => `(tactic| ((with_reducible show wpAny _ _ (call (Value.builtin "dict.keys") [Value.ref 58]) _ _ _); k_dflt (refine' callKeys (D := D8) ?K ?F ?N ?_; (case K => exact map58 (by k_asm)); (case F => k_asm); (case N => k_asm)); intro v9 h9 F9 N9 l9; (try k_lt l9); (try k_sweep)))
local macro_rules | `(tactic| walk_at "call type:list") => `(tactic| ((with_reducible show wpAny _ _ (call (Value.type _) [Value.ref _]) _ _ _); k_dflt (first | (refine' listKeys (a := 57) ?K ?hh ?F ?N ?hv ?_; (case K => exact map57 (by k_asm)); (case hh => exact rfl); (case F => k_asm); (case N => k_asm); (case hv => k_mem)) | (refine' listKeys (a := 58) ?K ?hh ?F ?N ?hv ?_; (case K => exact map58 (by k_asm)); (case hh => exact rfl); (case F => k_asm); (case N => k_asm); (case hv => k_mem))); intro B9 c9 h9 tk9 t91 t92 t93 t94 t95 t96 t97 t98 F9 N9 l9; (try k_lt l9); (try k_sweep)))
local macro_rules | `(tactic| walk_at "binaryOp Mod str ref") => `(tactic| (k_dflt (first | (refine' modL (Y := F1) ?e meetsL ?hg ?hu ?F ?N ?hB ?_; (case e => decide +kernel); (case hg => exact rfl); (case hu => ((show _ < 9900); ktr_unf)); (case F => k_asm); (case N => k_asm); (case hB => k_mem)) | (refine' modL (Y := F2) ?e meetsL2 ?hg ?hu ?F ?N ?hB ?_; (case e => decide +kernel); (case hg => exact rfl); (case hu => ((show _ < 9900); ktr_unf)); (case F => k_asm); (case N => k_asm); (case hB => k_mem))); intro h9 tk9 T9 u9 F9 N9; (try k_sweep)))
local macro_rules | `(tactic| walk_at "leaving ref") => `(tactic| (first
  | (refine' leave_raiseS ?k1 ?k0 ?k2 ?k3 ?_; (case k0 => first | assumption | exact Heap.MadeExc.of (by assumption)); (case k2 => assumption); (case k1 => assumption); (case k3 => k_asm); k_whole; intro h' t' S' R' U'; (try dsimp only at S' R' U' ⊢))
  | (refine' leave_onS ?k1 ?k2 ?k3 ?k4 ?_; (case k3 => assumption); (case k2 => assumption); (case k1 => assumption); (case k4 => assumption); k_whole; intro h' S' R' U'; (try dsimp only at S' R' U' ⊢))))

local macro_rules | `(tactic| walk_at "subscriptTail") => `(tactic| ((with_reducible show wpAny _ _ (subscriptTail _ _ (Value.ref (Fx.pool _)) (Value.int ((Fin.val _ : Nat) : Int) _)) _ _ _); k_dflt (refine' item3 (fun j => Value.ref (Fx.loc _ j)) ?N ?m ?_; (case N => k_asm); (case m => k_mem)); (try dsimp only)))
local macro_rules | `(tactic| walk_at "subscriptTail") => `(tactic| ((with_reducible show wpAny _ _ (subscriptTail _ _ (Value.ref (Fx.cells _)) (Value.int ((Fin.val _ : Nat) : Int) _)) _ _ _); k_dflt (refine' item3 (fun j => Value.ref (Fx.c _ j)) ?N ?m ?_; (case N => k_asm); (case m => k_mem)); (try dsimp only)))
local macro_rules | `(tactic| walk_at "subscriptTail") => `(tactic| ((with_reducible show wpAny _ _ (subscriptTail _ _ (Value.ref (Fx.plans _)) (Value.int ((Fin.val _ : Nat) : Int) _)) _ _ _); k_dflt (refine' item2 (fun j => Value.ref (Fx.x _ j)) ?N ?m ?_; (case N => k_asm); (case m => k_mem)); (try dsimp only)))
local macro_rules | `(tactic| walk_at "subscriptTail") => `(tactic| ((with_reducible show wpAny _ _ (subscriptTail _ _ (Value.ref (Fx.picks _)) (Value.int ((Fin.val _ : Nat) : Int) _)) _ _ _); k_dflt (refine' item2 (fun j => Value.ref (Fx.pk _ j)) ?N ?m ?_; (case N => k_asm); (case m => k_mem)); (try dsimp only)))
local macro_rules | `(tactic| walk_at "call builtin:len") => `(tactic| ((with_reducible show wpAny _ _ (call (Value.builtin "len") [Value.ref _]) _ _ _); k_dflt (refine' len_led ?N ?m ?s ?f ?_; (case N => k_asm); (case m => k_mem); (case s => assumption); (case f => assumption)); intro t9 k9))

local macro_rules | `(tactic| ktr_enter) => `(tactic| (
  refine' enterSC ?k1 ?k2 ?k3 ?k4 ?k5 ?kA ?kK ?k6 ?k7 ?k8 ?k9 ?kB ?kD ?_ ?c2 ?c3 ?c4;
  (case kA => exact rfl); (case kK => assumption); (case k1 => assumption); (case k2 => assumption); (case k3 => assumption); (case k4 => assumption); (case k5 => assumption);
  (case k6 => k_is); (case k7 => k_is); (case k8 => first | (simp only [recursionLimit]; omega) | ktr_room); (case k9 => exact BindsTo.of_eq rfl); (case kB => exact rfl); (case kD => decide +kernel); (case c2 => exact rfl); (case c3 => exact rfl); (case c4 => exact rfl)))
local macro_rules | `(tactic| walk_at "LeaveS0") => `(tactic| refine Stop.mk ?_)
local macro_rules | `(tactic| walk_at "call ref") => `(tactic| ((try dsimp only [List.cons_append, List.nil_append]); (with_reducible show wpAny _ _ (call (Value.ref 252) [Value.ref _]) _ _ _); k_dflt (refine' get_ok ?B ?F ?X ?T ?hk ?hd ?hu ?N ?_; (case B => k_asm); (case F => k_asm); (case X => k_asm); (case T => k_asm); (case hk => first | exact rfl | assumption); (case hd => ktr_unf); (case hu => ktr_unf); (case N => exact news2 (by k_asm) (by k_mem) (by k_mem))); intro h9 tk9 K9; (have N9 := K9.news0 (by assumption)); (have F9 := K9.fr)))
local macro_rules | `(tactic| walk_at "call ref") => `(tactic| ((with_reducible show wpAny _ _ (call (Value.ref 245) _ _) _ _ _); refine Stop.mk ?_))
local macro_rules | `(tactic| walk_at "exec For Tuple Call") => `(tactic| (k_dflt (refine' PySem.W.For_turns ?F ?_; (case F => k_asm))))
local macro_rules | `(tactic| walk_at "CompSrc") => `(tactic| refine Stop.mk ?_)
local macro_rules | `(tactic| walk_at "TurnC") => `(tactic| refine Stop.mk ?_)
local macro_rules | `(tactic| walk_at "call ref") => `(tactic| ((try dsimp only [List.cons_append, List.nil_append]); (with_reducible show wpAny _ _ (call (Value.ref 72) [Value.ref _]) _ _ _); k_dflt (refine' byte_int_ok ?B ?F ?X ?T ?hk ?hd ?hu ?N ?h1 ?h2 ?_; (case B => k_asm); (case F => k_asm); (case X => k_asm); (case T => k_asm); (case hk => first | exact rfl | assumption); (case hd => ktr_unf); (case hu => ktr_unf); (case N => exact news2 (by k_asm) (by k_mem) (by k_mem)); (case h1 => assumption); (case h2 => assumption)); intro h9 t9 tk9 K9; (have N9 := K9.news0 (by assumption)); (have F9 := K9.fr)))
local macro_rules | `(tactic| walk_at "call ref") => `(tactic| ((try dsimp only [List.cons_append, List.nil_append]); (with_reducible show wpAny _ _ (call (Value.ref 79) [Value.ref _]) _ _ _); k_dflt (refine' byte_ok ?B ?F ?X ?T ?hk ?hd ?hu ?N ?h1 ?h2 ?_; (case B => k_asm); (case F => k_asm); (case X => k_asm); (case T => k_asm); (case hk => first | exact rfl | assumption); (case hd => ktr_unf); (case hu => ktr_unf); (case N => exact news2 (by k_asm) (by k_mem) (by k_mem)); (case h1 => assumption); (case h2 => assumption)); intro h9 t9 tk9 K9; (have N9 := K9.news0 (by assumption)); (have F9 := K9.fr)))
local macro_rules | `(tactic| walk_at "call ref") => `(tactic| ((try dsimp only [List.cons_append, List.nil_append]); (with_reducible show wpAny _ _ (call (Value.ref 280) [Value.ref _]) _ _ _); k_dflt (refine' mark_ok ?B ?F ?X ?T ?hk ?hd ?hu ?N ?_; (case B => k_asm); (case F => k_asm); (case X => k_asm); (case T => k_asm); (case hk => first | exact rfl | assumption); (case hd => ktr_unf); (case hu => ktr_unf); (case N => exact news1 (by k_asm) (by k_mem))); intro h9 t9 tk9 K9; (have N9 := K9.news0 (by assumption)); (have F9 := K9.fr)))
local macro_rules | `(tactic| walk_at "execs cons") => `(tactic| ((with_reducible show wpAny _ _ (execs (Stmt.Assign _ (Expr.BoolOp _ _ _) _ :: _) _) _ _ _); refine Stop.mk ?_))
local macro_rules | `(tactic| walk_at "exec Try") => `(tactic| refine Stop.mk ?_)
local macro_rules | `(tactic| walk_at "call type:zip") => `(tactic| refine Stop.mk ?_)
local macro_rules | `(tactic| walk_at "eval Name") => `(tactic| (k_dflt (refine' nameX_L ?k1 ?k2 ?_; (case k1 => k_asm); (case k2 => first | assumption | exact rfl | ((simp (decide := true) only [↓reduceIte]); assumption)))))
section
variable {w : World} {A₀ : Around} {s : Shared} {base h₀ : Heap} {L : Addr} {m : Str → Option Value} {mean : ExcName → Option Value} {mg mb : Str → Option Value}
  {Q E : Value → Shared → Prop} {dp un : Nat} {cn : Str} {cs : Scope} {a : Addr} {ccd : Value}
theorem holds_ok {f : Fx} {v : Sv} {d : Fin 2} (B : Below A₀ base [] h₀) (F : Fr h₀ L s.heap m) (X : (hd.heap_39 w.params).In h₀) (T : Top hd.view_39 LO mean mg mb h₀) (XTB : BaseOk w mean mg mb base)
   (hke : cs.kind = .function) (hdp : dp + 70 < 1000) (hun : un + 700 < 9900) (N : News h₀ L s.heap (Wd w f v)) (I : Inv f v)
   (hQ : ∀ h' tk', Back h₀ L m [] s.heap h' → Q (.bool true) { s with heap := h', toks := tk' }) :
   wpAny (model PySem.Challenge.rw_eh5030_01.row.prog w) (ktrTop dp un (some []) cn cs L a ccd [] []) (call (.ref 299) [.ref (f.x d), .ref (f.pk d), .ref f.pool, .ref f.cells] []) Q E s := by
  refine wpAny_call ?_
  k_dflt ktr_enter
  have hN := gets N
  intro g L' h₁ tk cells kg lL FG F N Y B X T D l1
  k_cells Y
  (try dsimp only); (try k_fold)
  rename _ = Data.cell _ => dc0
  have dc := dc0
  replace dc : _ = Data.cell (some (.ref f.cells)) := dc
  clear dc0
  generalize hmm : bindL _ _ _ = mm at F
  have p1 : mm (Str.ofString "plan") = some (.ref (f.x d)) := by rw [← hmm]; rfl
  have p2 : mm (Str.ofString "picks") = some (.ref (f.pk d)) := by rw [← hmm]; rfl
  have p3 : mm (Str.ofString "pool") = some (.ref f.pool) := by rw [← hmm]; rfl
  clear hmm
  have hL9 := F.ns.lt
  have hfs : ∀ b ∈ [envOf cn cs L a ccd].filterMap (·.frame), b = L := fun b hb => by
    rcases kts_mem hb with z | z
    · exact z
    · cases z
  have N0 := news_app (news_app (news_sub N (fun p hp => List.mem_append_right _ (wd_plan d p hp))) (news_app (news_sub N (fun p hp => by rw [List.mem_singleton.mp hp]; exact List.mem_append_right _ (wd_pick d) : ∀ p ∈ [pickN f v d], p ∈ _)) (news_sub N (fun p hp => List.mem_append_right _ (wd_top p hp))))) N
  simp only [List.cons_append, List.nil_append] at N0 N
  have hz1 : (itsOf (ensOf f v d)).size = (v.pv d).es.length := by simp
  have hz2 : ((pickVs v d).toArray).size = (v.pv d).es.length := by rw [List.size_toArray, List.length_map, ← List.length_map (f := (·.1)), I.picks d, List.length_map]
  have hz3 : (v.pv d).es.length < 100000 := Nat.lt_trans (I.small d) (by decide)
  k_steps
  · exfalso
    omega
  refine Stop.of ?_
  refine' forZipR (L := L') ?hL ?F ?N ?m1 ?m2 ?hh ?ha ?hb ?hp ?step ?done
  case hL => rfl
  case hh => rfl
  case ha => rfl
  case hb => rfl
  case hp => rfl
  case F => assumption
  case N => assumption
  case m1 => k_mem
  case m2 => k_mem
  case step =>
    intro i x y m₁ h₂ tk₂ own hx hy hm F₂ N₂
    have hpool : m₁ (Str.ofString "pool") = some (.ref f.pool) := (hm _ (by decide) (by decide)).trans (by (simp (decide := true) only [↓reduceIte]); assumption)
    obtain ⟨e, he, rfl⟩ : ∃ e, (v.pv d).es[i]? = some e ∧ x = .ref e.en := by
      simp only [List.getElem?_toArray, List.getElem?_map, Option.map_map] at hx
      obtain ⟨e', h1, h2⟩ := Option.map_eq_some_iff.mp hx
      exact ⟨e', h1, h2.symm⟩
    obtain ⟨j, t, hj, rfl⟩ : ∃ j t, (v.kv d).is[i]? = some (j, t) ∧ y = .int ((j.val : Nat) : Int) t := by
      simp only [List.getElem?_toArray, List.getElem?_map] at hy
      obtain ⟨e', h1, h2⟩ := Option.map_eq_some_iff.mp hy
      exact ⟨e'.1, e'.2, h1, h2.symm⟩
    obtain rfl : j = e.i := by
      have h1 : ((v.kv d).is.map (·.1))[i]? = some j := by rw [List.getElem?_map, hj]; rfl
      have h2 : ((v.pv d).es.map (·.i))[i]? = some e.i := by rw [List.getElem?_map, he]; rfl
      rw [I.picks d, h2] at h1
      exact (Option.some.inj h1).symm
    have hm' : e ∈ (v.pv d).es := List.mem_of_getElem? he
    have N₃ := news_app (news_sub N₂ (fun p hp => List.mem_append_right _ (List.mem_append_right (_ :: _ :: _ :: _ :: _ :: _ :: _ :: _ :: _ :: []) (wd_ev hm' p hp)))) (news_app (news_sub N₂ (fun p hp => List.mem_append_right _ (List.mem_append_right (_ :: _ :: _ :: _ :: _ :: _ :: _ :: _ :: _ :: []) (wd_top p hp)))) N₂)
    simp only [List.cons_append, List.nil_append] at N₃
    k_steps
    exact ⟨.inl rfl, _, _, _, rfl, by assumption, news_drop 6 (by assumption), fun z h1 h2 => by rw [if_neg h2, if_neg h1]; exact hm z h1 h2⟩
  case done =>
    intro h₂ tk₂ u F₂ N₂
    k_steps
    refine Stop.of ?_
    refine' compSrc_inv ?hh ?F ?N ?hm ?hsz (fun i ys => IntsAre ys ((msOf f v d).take i)) ?h0 ?turn ?fin
    case hh => rfl
    case F => assumption
    case N => assumption
    case hm => k_mem
    case hsz => rw [hz2]; exact hz3
    case h0 => exact .nil
    case turn =>
      intro i x ys I' oI C oC D' m₂ h₃ tk₃ E' hx hR hC hm₂ F₃ N₃
      obtain ⟨j, t, hj, rfl⟩ : ∃ j t, (v.kv d).is[i]? = some (j, t) ∧ x = .int ((j.val : Nat) : Int) t := by
        simp only [List.getElem?_toArray, List.getElem?_map] at hx
        obtain ⟨e', h1, h2⟩ := Option.map_eq_some_iff.mp hx
        exact ⟨e'.1, e'.2, h1, h2.symm⟩
      have N₄ := news_app (news_sub N₃ (fun p hp => by rw [List.mem_singleton.mp hp]; exact List.mem_append_right (_ :: _ :: _ :: _ :: _ :: _ :: _ :: _ :: _ :: _ :: _ :: _ :: []) (wd_cell j) : ∀ p ∈ [cellN f v j], p ∈ _)) N₃
      simp only [List.cons_append, List.nil_append] at N₄
      k_steps
      refine Stop.of ?_
      refine ⟨_, _, rfl, by assumption, news_drop 1 (by assumption), ?_⟩
      rw [List.take_add_one, List.getElem?_map, hj]
      refine hR.append ?_
      show IntsAre _ [mk (lcOf f v j)]
      have e9 : fA (v.cv j).high (f.sz j) / 8 * 16 + fA (v.cv j).low (f.ad j) / 8 = mk (lcOf f v j) := by rw [I.high j, I.low j]
      rw [e9]
      exact .cons _ _ .nil
    case fin =>
      intro g9 ys hR
      have hil : (v.kv d).is.length = (v.pv d).es.length := by rw [← List.length_map (f := (·.1)), I.picks d, List.length_map]
      have hR' : IntsAre ys (msOf f v d) := by rwa [hz2, List.take_of_length_le (by rw [List.length_map]; omega)] at hR
      have hlen : ys.toArray.size = (v.pv d).es.length := by
        rw [List.size_toArray, hR'.length, List.length_map]; exact hil
      clear hR
      k_steps
      refine Stop.of ?_
      obtain ⟨b, hb⟩ : ∃ b : Bool, (b = true ↔ (ensOf f v d ≠ [] ∧ Alike (ensOf f v d))) := ⟨@decide _ (Classical.propDecidable _), @decide_eq_true_iff _ (Classical.propDecidable _)⟩
      refine joinV (Str.ofString "alike") (.bool b) (by assumption) (by assumption) ?jA ?jB
      case jA =>
        k_steps
        · exact ⟨trivial, _, _, rfl, by rw [← alike_ms I hb (by assumption)]; assumption, news_drop 2 (by assumption)⟩
        · have hz9 : decide (0 < (((v.pv d).es.length : Nat) : Int)) = b := by
            cases b with
            | false => exact decide_eq_false (by assumption)
            | true =>
              have h1 := (hb.mp rfl).1
              exfalso
              refine h1 (List.map_eq_nil_iff.mpr (List.eq_nil_of_length_eq_zero ?_))
              omega
          exact ⟨trivial, _, _, rfl, by rw [← hz9]; assumption, by assumption⟩
      case jB =>
        intro h₃ tk₃ F₃ N₃
        k_steps
        refine Stop.of ?_
        refine wpAny_Try_except ?_
        k_steps
        refine Stop.of ?_
        refine get_alfid_ok (es := ensOf f v d) (by assumption) (by assumption) (by assumption) (by assumption) rfl (by ktr_unf) (by ktr_unf) (news_sub (by assumption) (fun p hp => List.mem_append_right (_ :: _ :: _ :: _ :: _ :: _ :: _ :: _ :: _ :: _ :: []) (wd_did d p hp))) (fun e he => by obtain ⟨e', _, rfl⟩ := List.mem_map.mp he; exact I.ok _) ?jQ ?jE
        case jQ =>
          intro e rest hes hal h9 tk9 K9
          have N9 := K9.news0 (by assumption)
          have F9 := K9.fr
          obtain ⟨e', he', rfl⟩ := List.mem_map.mp (hes ▸ List.mem_cons_self : e ∈ ensOf f v d)
          obtain rfl : b = true := hb.mpr ⟨by rw [hes]; exact List.cons_ne_nil _ _, hal⟩
          have hpos : 0 < (((v.pv d).es.length : Nat) : Int) := by
            have := List.length_pos_of_mem he'
            omega
          have hpos2 : 0 < (msOf f v d).length := by
            rw [ms_ens I, List.length_map, List.length_map]
            exact List.length_pos_of_mem he'
          have hf := (I.ok e'.i).hf
          have hg := (I.ok e'.i).hg
          have hmk := mk_bnd (I.ok e'.i)
          have hm0 : mk (lcOf f v e'.i) = (msOf f v d).getD (Int.toNat 0) 0 := by rw [ms_ens I, hes]; rfl
          have N4 := news_app (news_sub N9 (fun p hp => List.mem_append_right (_ :: _ :: _ :: _ :: _ :: _ :: _ :: _ :: _ :: _ :: []) (wd_lc e'.i p hp))) N9
          simp only [List.cons_append, List.nil_append] at N4
          k_steps
          · refine Stop.of ?_
            show LeaveS0 _ _ _ _ _ _ _ _
            refine' leave_true ?hx ?F0 ?N0 KtsTurn.refl fun kF => hQ _ _ (back_ledS kg KtsTurn.refl hfs hN kF ?F1 ?N1 (fun p hp => .inr ?sb))
            case F0 => assumption
            case N0 => assumption
            case F1 => assumption
            case N1 => assumption
            case hx => rw [← hm0]; exact beq_self_eq_true _
            case sb => repeat (first | exact hp | refine List.Mem.tail _ ?_)
          · exact absurd hm0 (by assumption)
        case jE =>
          intro hbad e9 h9 tk9 Fl
          obtain rfl : b = false := by
            cases b with
            | false => rfl
            | true => exact absurd (hb.mp rfl) hbad
          (try dsimp only)
          k_steps
          refine' val_catchX Fl ?F ?N ?B XTB.1 XTB.2 (by k_is) PyProof.Rows.Boot.«ValueError» (by decide) ?_ rfl rfl (by decide) (by passes_own)
          case F => assumption
          case N => assumption
          case B => assumption
          intro h6 g6 TT F6 N6 K6 X6 T6
          k_steps
          refine Stop.of ?_
          show LeaveS0 _ _ _ _ _ _ _ _
          refine' leave_true ?hx ?F0 ?N0 TT fun kF => hQ _ _ (back_ledS kg TT hfs hN kF ?F1 ?N1 (fun p hp => .inr ?sb))
          case F0 => assumption
          case N0 => assumption
          case F1 => assumption
          case N1 => assumption
          case hx => rfl
          case sb => repeat (first | exact hp | refine List.Mem.tail _ ?_)
end
end Mine
namespace Mine
open PySem PySem.Calls PySem.Spec
theorem u8_nat (n : Nat) : (((n % 256).toUInt8.toNat : Nat) : Int) = ((n % 256 : Nat) : Int) := by
  have h := PySem.W.byte_back (n := ((n % 256 : Nat) : Int)) (by omega) (by omega)
  simpa using h
theorem bI_be8 (n : Nat) : KBw.bInts (be8 n) = [((n / 256 ^ 7 % 256 : Nat) : Int), ((n / 256 ^ 6 % 256 : Nat) : Int), ((n / 256 ^ 5 % 256 : Nat) : Int), ((n / 256 ^ 4 % 256 : Nat) : Int), ((n / 256 ^ 3 % 256 : Nat) : Int), ((n / 256 ^ 2 % 256 : Nat) : Int), ((n / 256 ^ 1 % 256 : Nat) : Int), ((n / 256 ^ 0 % 256 : Nat) : Int)] := by
  show List.map _ [_, _, _, _, _, _, _, _] = _
  simp only [List.map, u8_nat]
theorem read_be8 {n k : Nat} (h1 : 1 ≤ k) (h2 : k ≤ 8) : readI ((KBw.bInts (be8 n)).drop (8 - k)) = ((n % 256 ^ k : Nat) : Int) := by
  rw [bI_be8]
  have hk : k = 1 ∨ k = 2 ∨ k = 3 ∨ k = 4 ∨ k = 5 ∨ k = 6 ∨ k = 7 ∨ k = 8 := by omega
  rcases hk with rfl | rfl | rfl | rfl | rfl | rfl | rfl | rfl <;> simp only [readI, List.drop, List.foldl, Nat.reduceSub, Nat.reducePow] <;> omega
theorem cut_be8 {n k : Nat} (h1 : 1 ≤ k) (h2 : k ≤ 8) : (KBw.bInts (be8 (n % 256 ^ k))).drop (8 - k) = (KBw.bInts (be8 n)).drop (8 - k) := by
  rw [bI_be8, bI_be8]
  have hk : k = 1 ∨ k = 2 ∨ k = 3 ∨ k = 4 ∨ k = 5 ∨ k = 6 ∨ k = 7 ∨ k = 8 := by omega
  rcases hk with rfl | rfl | rfl | rfl | rfl | rfl | rfl | rfl <;> simp only [List.drop, Nat.reduceSub, Nat.reducePow, List.cons.injEq, and_true] <;> omega
theorem len_be8 {n k : Nat} (h2 : k ≤ 8) : ((KBw.bInts (be8 n)).drop (8 - k)).length = k := by
  rw [List.length_drop, KBw.ints_length, be8_size]; omega
/-- the widths of a mark -/
theorem mk_parts {l : Lc} (h : LcOk l) : ∃ k j : Nat, 1 ≤ k ∧ k ≤ 8 ∧ 1 ≤ j ∧ j ≤ 8 ∧ mk l = (j : Int) * 16 + (k : Int) := by
  have h1 := e8_bnd h.hf
  have h2 := e8_bnd h.hg
  refine ⟨(fA l.low l.ad / 8).toNat, (fA l.high l.sz / 8).toNat, by omega, by omega, by omega, by omega, ?_⟩
  show fA l.high l.sz / 8 * 16 + fA l.low l.ad / 8 = _
  omega
theorem parts_of {l : Lc} (h : LcOk l) {k j : Nat} (h1 : 1 ≤ k) (h2 : k ≤ 8) (h3 : 1 ≤ j) (h4 : j ≤ 8) (e : mk l = (j : Int) * 16 + (k : Int)) : fA l.low l.ad / 8 = (k : Int) ∧ fA l.high l.sz / 8 = (j : Int) := by
  have h5 := e8_bnd h.hf
  have h6 := e8_bnd h.hg
  have e' : fA l.high l.sz / 8 * 16 + fA l.low l.ad / 8 = (j : Int) * 16 + (k : Int) := e
  omega
section
variable {l : Lc} {k j : Nat}
theorem aI_of (e : fA l.low l.ad / 8 = (k : Int)) : aI l = (KBw.bInts (be8 l.ad.toNat)).drop (8 - k) := by
  show (KBw.bInts (be8 l.ad.toNat)).drop (8 - (fA l.low l.ad / 8).toNat) = _
  rw [e, Int.toNat_natCast]
theorem mI_of (e : fA l.high l.sz / 8 = (j : Int)) : mI l = (KBw.bInts (be8 l.sz.toNat)).drop (8 - j) := by
  show (KBw.bInts (be8 l.sz.toNat)).drop (8 - (fA l.high l.sz / 8).toNat) = _
  rw [e, Int.toNat_natCast]
theorem read_aI (e : fA l.low l.ad / 8 = (k : Int)) (h1 : 1 ≤ k) (h2 : k ≤ 8) (h0 : 0 ≤ l.ad) : readI (aI l) = l.ad % 256 ^ k := by
  rw [aI_of e, read_be8 h1 h2]
  obtain ⟨n, hn⟩ := Int.eq_ofNat_of_zero_le h0
  rw [hn, Int.toNat_natCast]
  simp
theorem read_mI (e : fA l.high l.sz / 8 = (j : Int)) (h1 : 1 ≤ j) (h2 : j ≤ 8) (h0 : 0 ≤ l.sz) : readI (mI l) = l.sz % 256 ^ j := by
  rw [mI_of e, read_be8 h1 h2]
  obtain ⟨n, hn⟩ := Int.eq_ofNat_of_zero_le h0
  rw [hn, Int.toNat_natCast]
  simp
end
/-- a location that was read back -/
structure Blk (k j : Nat) (l l' : Lc) : Prop where
  ad : l'.ad = readI (aI l)
  sz : l'.sz = readI (mI l)
  low : l'.low = some ((k : Int) * 8)
  high : l'.high = some ((j : Int) * 8)
theorem Blk.fa {k j : Nat} {l l' : Lc} (B : Blk k j l l') : fA l'.low l'.ad = (k : Int) * 8 := by rw [B.low]; rfl
theorem Blk.fm {k j : Nat} {l l' : Lc} (B : Blk k j l l') : fA l'.high l'.sz = (j : Int) * 8 := by rw [B.high]; rfl
theorem Blk.mark {k j : Nat} {l l' : Lc} (B : Blk k j l l') : Mine.mk l' = (j : Int) * 16 + (k : Int) := by
  show fA l'.high l'.sz / 8 * 16 + fA l'.low l'.ad / 8 = _
  rw [B.fa, B.fm]; omega
theorem Blk.ok {k j : Nat} {l l' : Lc} (B : Blk k j l l') (h : LcOk l) (e1 : fA l.low l.ad / 8 = (k : Int)) (e2 : fA l.high l.sz / 8 = (j : Int)) (h1 : 1 ≤ k) (h2 : k ≤ 5) (h3 : 1 ≤ j) (h4 : j ≤ 4) : LcOk l' := by
  have p1 : (256 : Nat) ^ k ≤ 256 ^ 5 := Nat.pow_le_pow_right (by decide) h2
  have p2 : (256 : Nat) ^ j ≤ 256 ^ 4 := Nat.pow_le_pow_right (by decide) h4
  have q1 : (256 : Int) ^ k = ((256 ^ k : Nat) : Int) := by simp
  have q2 : (256 : Int) ^ j = ((256 ^ j : Nat) : Int) := by simp
  have r1 : (0 : Nat) < 256 ^ k := Nat.pow_pos (by decide)
  have r2 : (0 : Nat) < 256 ^ j := Nat.pow_pos (by decide)
  have a1 := read_aI e1 h1 (by omega) h.ha1
  have a2 := read_mI e2 h3 (by omega) h.hs1
  rw [← B.ad, q1] at a1
  rw [← B.sz, q2] at a2
  have b1 := Int.emod_nonneg l.ad (b := ((256 ^ k : Nat) : Int)) (by omega)
  have b2 := Int.emod_lt_of_pos l.ad (b := ((256 ^ k : Nat) : Int)) (by omega)
  have b3 := Int.emod_nonneg l.sz (b := ((256 ^ j : Nat) : Int)) (by omega)
  have b4 := Int.emod_lt_of_pos l.sz (b := ((256 ^ j : Nat) : Int)) (by omega)
  exact ⟨by omega, by omega, by omega, by omega, by rw [B.fa]; exact e8_iff.mpr (by omega), by rw [B.fm]; exact e8_iff.mpr (by omega)⟩
theorem Blk.a {k j : Nat} {l l' : Lc} (B : Blk k j l l') (h : LcOk l) (e1 : fA l.low l.ad / 8 = (k : Int)) (h1 : 1 ≤ k) (h2 : k ≤ 8) : aI l' = aI l := by
  obtain ⟨n, hn⟩ := Int.eq_ofNat_of_zero_le h.ha1
  have a1 := read_aI e1 h1 h2 h.ha1
  rw [aI_of e1, aI_of (k := k) (by rw [B.fa]; omega), B.ad, a1, hn, Int.toNat_natCast]
  have : ((n : Int) % 256 ^ k).toNat = n % 256 ^ k := by
    have q1 : (256 : Int) ^ k = ((256 ^ k : Nat) : Int) := by simp
    rw [q1, ← Int.natCast_emod, Int.toNat_natCast]
  rw [this]
  exact cut_be8 h1 h2
theorem Blk.m {k j : Nat} {l l' : Lc} (B : Blk k j l l') (h : LcOk l) (e2 : fA l.high l.sz / 8 = (j : Int)) (h1 : 1 ≤ j) (h2 : j ≤ 8) : mI l' = mI l := by
  obtain ⟨n, hn⟩ := Int.eq_ofNat_of_zero_le h.hs1
  have a1 := read_mI e2 h1 h2 h.hs1
  rw [mI_of e2, mI_of (j := j) (by rw [B.fm]; omega), B.sz, a1, hn, Int.toNat_natCast]
  have : ((n : Int) % 256 ^ j).toNat = n % 256 ^ j := by
    have q1 : (256 : Int) ^ j = ((256 ^ j : Nat) : Int) := by simp
    rw [q1, ← Int.natCast_emod, Int.toNat_natCast]
  rw [this]
  exact cut_be8 h1 h2
/-- a piece of a list of octets -/
structure CutAt (ks : List Int) (p q : Int) (as : List Int) : Prop where
  h0 : 0 ≤ p
  h1 : 0 ≤ q
  h2 : p + q ≤ ks.length
  h3 : (ks.drop p.toNat).take q.toNat = as
theorem cutR {ks as : List Int} {p q : Int} (h : CutAt ks p q as) : (ks.drop ((some p : Option Int).elim 0 (clipAt ks.length))).take ((some (p + q) : Option Int).elim ks.length (clipAt ks.length) - (some p : Option Int).elim 0 (clipAt ks.length)) = as := by
  obtain ⟨h0, h1, h2, h3⟩ := h
  obtain ⟨a, rfl⟩ := Int.eq_ofNat_of_zero_le h0
  obtain ⟨b, rfl⟩ := Int.eq_ofNat_of_zero_le h1
  have e1 : clipAt ks.length (a : Int) = a := by rw [clipAt_nat]; omega
  have e2 : clipAt ks.length ((a : Int) + (b : Int)) = a + b := by
    rw [show (a : Int) + (b : Int) = ((a + b : Nat) : Int) by omega, clipAt_nat]; omega
  simp only [Option.elim, e1, e2]
  rw [show a + b - a = b by omega]
  simpa using h3
section
variable {es : List En} {k j : Nat}
theorem reqI_lenE (ha : ∀ e ∈ es, (aI e.l).length = k) (hm : ∀ e ∈ es, (mI e.l).length = j) : (reqI es).length = es.length * (k + j) := by
  induction es with
  | nil => simp [reqI]
  | cons e r ih =>
    show (List.flatMap _ (e :: r)).length = _
    rw [List.flatMap_cons, List.length_append, List.length_append, ha e (.head _), hm e (.head _), List.length_cons, Nat.succ_mul]
    have := ih (fun e he => ha e (.tail _ he)) (fun e he => hm e (.tail _ he))
    have h' : (List.flatMap (fun e : En => aI e.l ++ mI e.l) r).length = r.length * (k + j) := this
    omega
theorem reqI_cut {i : Nat} {e : En} (ha : ∀ e ∈ es, (aI e.l).length = k) (hm : ∀ e ∈ es, (mI e.l).length = j) (he : es[i]? = some e) :
    ∃ rest, (reqI es).drop (i * (k + j)) = aI e.l ++ (mI e.l ++ rest) ∧ i * (k + j) + (k + j) ≤ (reqI es).length := by
  induction es generalizing i with
  | nil => simp at he
  | cons a r ih =>
    have hl := reqI_lenE ha hm
    cases i with
    | zero =>
      obtain rfl : a = e := by simpa using he
      refine ⟨reqI r, ?_, ?_⟩
      · rw [Nat.zero_mul, List.drop_zero]
        show List.flatMap _ (a :: r) = _
        rw [List.flatMap_cons, List.append_assoc]
      · rw [hl, List.length_cons, Nat.succ_mul]; omega
    | succ i =>
      obtain ⟨rest, h1, h2⟩ := ih (i := i) (fun e he => ha e (.tail _ he)) (fun e he => hm e (.tail _ he)) (by simpa using he)
      have hl' := reqI_lenE (fun e he => ha e (.tail _ he)) (fun e he => hm e (.tail _ he)) (es := r)
      refine ⟨rest, ?_, ?_⟩
      · rw [← h1]
        show List.drop _ (List.flatMap _ (a :: r)) = _
        rw [List.flatMap_cons]
        have e9 : (aI a.l ++ mI a.l).length = k + j := by rw [List.length_append, ha a (.head _), hm a (.head _)]
        rw [show (i + 1) * (k + j) = (aI a.l ++ mI a.l).length + i * (k + j) by rw [e9, Nat.succ_mul]; omega, List.drop_append, List.drop_eq_nil_of_le (by omega), List.nil_append, Nat.add_sub_cancel_left]
      · rw [hl, List.length_cons, Nat.succ_mul, Nat.succ_mul]
        rw [hl'] at h2
        omega
theorem reqI_cuts {i : Nat} {e : En} {m0 : Int} (ha : ∀ e ∈ es, (aI e.l).length = k) (hm : ∀ e ∈ es, (mI e.l).length = j) (he : es[i]? = some e) :
    CutAt (m0 :: reqI es) (1 + ((i * (k + j) : Nat) : Int)) (k : Int) (aI e.l) ∧ CutAt (m0 :: reqI es) (1 + ((i * (k + j) : Nat) : Int) + (k : Int)) (j : Int) (mI e.l) := by
  obtain ⟨rest, h1, h2⟩ := reqI_cut ha hm he
  have hm' := List.mem_of_getElem? he
  have la := ha e hm'
  have lm := hm e hm'
  refine ⟨⟨by omega, by omega, by rw [List.length_cons]; omega, ?_⟩, ⟨by omega, by omega, by rw [List.length_cons]; omega, ?_⟩⟩
  · rw [show (1 + ((i * (k + j) : Nat) : Int)).toNat = i * (k + j) + 1 by omega, List.drop_succ_cons, h1, Int.toNat_natCast, ← la, List.take_left]
  · rw [show (1 + ((i * (k + j) : Nat) : Int) + (k : Int)).toNat = i * (k + j) + k + 1 by omega, List.drop_succ_cons, ← List.drop_drop, h1, Int.toNat_natCast, ← la, List.drop_left, ← lm, List.take_left]
end
theorem back_facts {f : Fx} {v : Sv} {d : Fin 2} (I : Inv f v) (hne : ensOf f v d ≠ []) (hal : Alike (ensOf f v d)) :
    ∃ (e : En) (rest : List En) (k j : Nat), ensOf f v d = e :: rest ∧ e ∈ ensOf f v d ∧ 1 ≤ k ∧ k ≤ 8 ∧ 1 ≤ j ∧ j ≤ 8 ∧ mk e.l = (j : Int) * 16 + (k : Int) ∧ (msOf f v d).getD (Int.toNat 0) 0 = (j : Int) * 16 + (k : Int) ∧
      (∀ e ∈ ensOf f v d, LcOk e.l ∧ fA e.l.low e.l.ad / 8 = (k : Int) ∧ fA e.l.high e.l.sz / 8 = (j : Int)) ∧ (∀ e ∈ ensOf f v d, (aI e.l).length = k) ∧ (∀ e ∈ ensOf f v d, (mI e.l).length = j) ∧
      ((mk e.l :: reqI (ensOf f v d)).length : Int) = 1 + ((k : Int) + (j : Int)) * (((v.pv d).es.length : Nat) : Int) ∧ (mk e.l :: reqI (ensOf f v d)).length ≤ 20000 := by
  have hok : ∀ e ∈ ensOf f v d, LcOk e.l := fun e he => by
    obtain ⟨e2, _, rfl⟩ := List.mem_map.mp he
    exact I.ok e2.i
  cases hq : ensOf f v d with
  | nil => exact absurd hq hne
  | cons e rest =>
    have hm : e ∈ ensOf f v d := hq ▸ List.mem_cons_self
    obtain ⟨k, j, hk1, hk2, hj1, hj2, hkj⟩ := mk_parts (hok e hm)
    have hp : ∀ e' ∈ ensOf f v d, fA e'.l.low e'.l.ad / 8 = (k : Int) ∧ fA e'.l.high e'.l.sz / 8 = (j : Int) := fun e' he' => parts_of (hok e' he') hk1 hk2 hj1 hj2 ((hal e' he' e hm).trans hkj)
    have ha : ∀ e ∈ ensOf f v d, (aI e.l).length = k := fun e' he' => by rw [aI_of (hp e' he').1]; exact len_be8 hk2
    have hm' : ∀ e ∈ ensOf f v d, (mI e.l).length = j := fun e' he' => by rw [mI_of (hp e' he').2]; exact len_be8 hj2
    have hl := reqI_lenE ha hm'
    have hn : (ensOf f v d).length = (v.pv d).es.length := List.length_map _
    have hs := I.small d
    have e1 : (mk e.l :: reqI (ensOf f v d)).length = 1 + (k + j) * (v.pv d).es.length := by rw [List.length_cons, hl, hn, Nat.mul_comm]; omega
    have e2 : (k + j) * (v.pv d).es.length ≤ 16 * (v.pv d).es.length := Nat.mul_le_mul_right _ (by omega)
    refine ⟨e, rest, k, j, rfl, hq ▸ hm, hk1, hk2, hj1, hj2, hkj, by rw [ms_ens I, hq]; exact hkj, hq ▸ (fun e' he' => ⟨hok e' he', hp e' he'⟩), hq ▸ ha, hq ▸ hm', ?_, ?_⟩
    · rw [← hq, e1]; simp
    · rw [← hq, e1]; omega
abbrev backB (w : World) (f : Fx) (v : Sv) (d : Fin 2) (L : Addr) (oc : Obj) : List (Addr × Obj) := pickN f v d :: (L, oc) :: (topN f ++ Wd w f v)
/-- what the loop of the reading back keeps -/
def BackJ (w : World) (f : Fx) (v : Sv) (d : Fin 2) (k j : Nat) (x dx le : Addr) (base : List (Addr × Obj)) (rb : Array UInt8) (t1 t2 t3 : Tok) (i : Nat) (m : Str → Option Value) (news : List (Addr × Obj)) : Prop :=
  ∃ (n : Nat) (q0 q1 tp : Tok) (se : List En), news = didNews w x dx le n q0 q1 se ++ base ∧ ((5 < k ∨ 4 < j) → se = []) ∧ (¬ (5 < k ∨ 4 < j) → se.length = i ∧ ∀ (q : Nat) (e e' : En), (ensOf f v d)[q]? = some e → se[q]? = some e' → Blk k j e.l e'.l) ∧
    (∀ p ∈ se.flatMap (entNews w), @LT.lt Nat _ le p.1) ∧ m (Str.ofString "place") = some (.int (1 + ((i * (k + j) : Nat) : Int)) tp) ∧ m (Str.ofString "low") = some (.int (k : Int) t1) ∧ m (Str.ofString "high") = some (.int (j : Int) t2) ∧ m (Str.ofString "request") = some (.bytes rb t3) ∧
    m (Str.ofString "server") = some (.ref x) ∧ m (Str.ofString "picks") = some (.ref (f.pk d))
end Mine
namespace Mine
open PySem PySem.Calls PySem.Spec
theorem bad1 {p : Prop} [Decidable p] (h : (true != decide p) = true) (hp : p) : False := by rw [decide_eq_true hp] at h; cases h
theorem bad2 {p : Prop} [Decidable p] (h : (false != decide p) = true) (hp : ¬ p) : False := by rw [decide_eq_false hp] at h; cases h
theorem bInts_inj {a b : Array UInt8} (h : KBw.bInts a = KBw.bInts b) : a = b := by
  have hi : ∀ l l' : List UInt8, l.map (fun c => (c.toNat : Int)) = l'.map (fun c => (c.toNat : Int)) → l = l' := by
    intro l
    induction l with
    | nil => intro l' h; cases l' with
      | nil => rfl
      | cons x r => cases h
    | cons x r ih => intro l' h; cases l' with
      | nil => cases h
      | cons y q =>
        simp only [List.map_cons, List.cons.injEq] at h
        have h1 : x = y := UInt8.toNat_inj.mp (by have := h.1; omega)
        rw [h1, ih q h.2]
  have := hi _ _ h
  cases a; cases b; simp_all
section
variable {w : World} {g h : Heap} {L x dx le en den : Addr} {n : Nat} {k0 k1 k2 : Tok} {se : List En} {l : Lc}
theorem did_snoc (N1 : News g L h [(en, instObj 206 den), (den, dictOf [ent w (Str.ofString "memloc") k0 (.ref l.loc)] 1), (x, instObj 255 dx), (dx, dictOf (didEs w k1 k2 le (.ref 206)) 2), (le, listOf ((itsOf se).push (.ref en)) (n + 1))])
    (N2 : News g L h (se.flatMap (entNews w))) (N3 : News g L h (lcNews w l)) : News g L h (didNews w x dx le (n + 1) k1 k2 (se ++ [⟨en, den, k0, l⟩])) := by
  have e1 : vD (!(se ++ [(⟨en, den, k0, l⟩ : En)]).isEmpty) = .ref 206 := by
    have : (se ++ [(⟨en, den, k0, l⟩ : En)]).isEmpty = false := by cases se <;> rfl
    rw [this]; rfl
  have e2 : itsOf (se ++ [(⟨en, den, k0, l⟩ : En)]) = (itsOf se).push (.ref en) := by
    show (List.map _ _).toArray = (List.map _ _).toArray.push _
    rw [List.map_append]; simp
  intro p hp
  rcases List.mem_cons.mp hp with rfl | hp
  · exact N1 _ (.tail _ (.tail _ (.head _)))
  rcases List.mem_cons.mp hp with rfl | hp
  · rw [e1]; exact N1 _ (.tail _ (.tail _ (.tail _ (.head _))))
  rcases List.mem_cons.mp hp with rfl | hp
  · rw [e2]; exact N1 _ (.tail _ (.tail _ (.tail _ (.tail _ (.head _)))))
  rw [List.flatMap_append, List.mem_append] at hp
  rcases hp with hp | hp
  · exact N2 p hp
  · rw [List.flatMap_cons, List.flatMap_nil, List.append_nil] at hp
    rcases List.mem_cons.mp hp with rfl | hp
    · exact N1 _ (.head _)
    rcases List.mem_cons.mp hp with rfl | hp
    · exact N1 _ (.tail _ (.head _))
    · exact N3 p hp
theorem flat_snoc {p : Addr × Obj} (hp : p ∈ (se ++ [(⟨en, den, k0, l⟩ : En)]).flatMap (entNews w)) : p ∈ se.flatMap (entNews w) ∨ p.1 = en ∨ p.1 = den ∨ p.1 = l.loc ∨ p.1 = l.dloc ∨ p.1 = l.al ∨ p.1 = l.dal := by
  rw [List.flatMap_append, List.mem_append] at hp
  rcases hp with hp | hp
  · exact .inl hp
  · rw [List.flatMap_cons, List.flatMap_nil, List.append_nil] at hp
    simp only [List.mem_cons, List.not_mem_nil, or_false] at hp
    rcases hp with rfl | rfl | rfl | rfl | rfl | rfl <;> simp
end
theorem blk_snoc {k j i : Nat} {ens se : List En} {e0 en : En} (hl : se.length = i) (hb : ∀ (q : Nat) (e e' : En), ens[q]? = some e → se[q]? = some e' → Blk k j e.l e'.l) (he : ens[i]? = some e0) (hB : Blk k j e0.l en.l) :
    (se ++ [en]).length = i + 1 ∧ ∀ (q : Nat) (e e' : En), ens[q]? = some e → (se ++ [en])[q]? = some e' → Blk k j e.l e'.l := by
  refine ⟨by rw [List.length_append, hl]; rfl, fun q e e' h1 h2 => ?_⟩
  by_cases hq : q < se.length
  · rw [List.getElem?_append_left hq] at h2
    exact hb q e e' h1 h2
  · rw [List.getElem?_append_right (by omega)] at h2
    have hq' : q = i := by
      cases hd : q - se.length with
      | zero => omega
      | succ r => rw [hd] at h2; simp at h2
    subst hq'
    rw [hl, Nat.sub_self] at h2
    simp only [List.getElem?_cons_zero, Option.some.injEq] at h2
    subst h2
    rw [he] at h1
    cases h1
    exact hB
theorem blk_all {k j : Nat} {ens se : List En} (hl : se.length = ens.length) (hb : ∀ (q : Nat) (e e' : En), ens[q]? = some e → se[q]? = some e' → Blk k j e.l e'.l)
    (hp : ∀ e ∈ ens, LcOk e.l ∧ fA e.l.low e.l.ad / 8 = (k : Int) ∧ fA e.l.high e.l.sz / 8 = (j : Int)) (h1 : 1 ≤ k) (h2 : k ≤ 5) (h3 : 1 ≤ j) (h4 : j ≤ 4) :
    reqI se = reqI ens ∧ (∀ e' ∈ se, LcOk e'.l) ∧ (∀ e' ∈ se, mk e'.l = (j : Int) * 16 + (k : Int)) := by
  have key : ∀ (q : Nat) (e' : En), se[q]? = some e' → ∃ e, ens[q]? = some e ∧ e ∈ ens ∧ Blk k j e.l e'.l := fun q e' he' => by
    have hq : q < ens.length := by
      have := (List.getElem?_eq_some_iff.mp he').1
      omega
    exact ⟨ens[q], List.getElem?_eq_getElem hq, List.getElem_mem hq, hb q _ _ (List.getElem?_eq_getElem hq) he'⟩
  refine ⟨?_, fun e' he' => ?_, fun e' he' => ?_⟩
  · have hm : se.map (fun e => aI e.l ++ mI e.l) = ens.map (fun e => aI e.l ++ mI e.l) := by
      apply List.ext_getElem?
      intro q
      rw [List.getElem?_map, List.getElem?_map]
      cases hs : se[q]? with
      | none =>
        have : ens[q]? = none := by rw [List.getElem?_eq_none_iff] at hs ⊢; omega
        rw [this]
      | some e' =>
        obtain ⟨e, he, hm, hB⟩ := key q e' hs
        obtain ⟨hok, p1, p2⟩ := hp e hm
        rw [he]
        show some (aI e'.l ++ mI e'.l) = some (aI e.l ++ mI e.l)
        rw [hB.a hok p1 h1 (by omega), hB.m hok p2 h3 (by omega)]
    show List.flatMap _ _ = List.flatMap _ _
    rw [List.flatMap_def, List.flatMap_def, hm]
  · obtain ⟨q, hq, rfl⟩ := List.mem_iff_getElem.mp he'
    obtain ⟨e, _, hm, hB⟩ := key q _ (List.getElem?_eq_getElem hq)
    obtain ⟨hok, p1, p2⟩ := hp e hm
    exact hB.ok hok p1 p2 h1 h2 h3 h4
  · obtain ⟨q, hq, rfl⟩ := List.mem_iff_getElem.mp he'
    obtain ⟨e, _, hm, hB⟩ := key q _ (List.getElem?_eq_getElem hq)
    exact hB.mark
end Mine
namespace Mine
open PySem PySem.Calls PySem.Spec
theorem rs_S2 : True := by w_top off; trivial
local macro_rules | `(tactic| ktr_enter) => `(tactic| (
  refine' enterK ?k1 ?k2 ?k3 ?k4 ?k5 ?kA ?kF ?kK ?k6 ?k7 ?k8 ?k9 ?kB ?_ ?c5 ?c2 ?c3 ?c4;
  (case kA => exact rfl); (case kF => exact rfl); (case kK => first | assumption | exact rfl); (case k1 => assumption); (case k2 => assumption); (case k3 => assumption); (case k4 => assumption); (case k5 => assumption);
  (case k6 => k_is); (case k7 => k_is); (case k8 => first | (simp only [recursionLimit]; omega) | ktr_room); (case k9 => first | exact BindsTo.of_eq rfl | exact binds_K (by k_in) rfl (by k_is) rfl rfl rfl); (case c5 => decide); (case kB => exact locs rfl); (case c2 => exact rfl); (case c3 => exact rfl); (case c4 => exact rfl)))
local macro_rules | `(tactic| walk_at "subscriptTail") => `(tactic| ((with_reducible show wpAny _ _ (subscriptTail _ _ (Value.ref 58) (Value.int _ _)) _ _ _); k_dflt (refine' item58 ?F ?X ?h ?_; (case F => k_asm); (case X => k_asm); (case h => assumption)); intro t'))
local macro_rules | `(tactic| walk_at "subscriptTail") => `(tactic| ((with_reducible show wpAny _ _ (subscriptTail _ _ (Value.ref 57) (Value.int _ _)) _ _ _); k_dflt (refine' item57 ?F ?X ?h ?_; (case F => k_asm); (case X => k_asm); (case h => assumption)); intro t'))
local macro_rules | `(tactic| walk_at "compareOp NotIn int ref") => `(tactic| ((with_reducible show wpAny _ _ (compareOp CmpOp.NotIn (Value.int _ _) (Value.ref 58)) _ _ _); k_dflt (refine' notin58 ?F ?X ?_; (case F => k_asm); (case X => k_asm))))
local macro_rules | `(tactic| walk_at "compareOp NotIn int ref") => `(tactic| ((with_reducible show wpAny _ _ (compareOp CmpOp.NotIn (Value.int _ _) (Value.ref 57)) _ _ _); k_dflt (refine' notin57 ?F ?X ?_; (case F => k_asm); (case X => k_asm))))
local macro_rules | `(tactic| walk_at "binaryOp LShift int int") => `(tactic| (refine lshift_int_small (by decide) (by decide) (by omega) ?_))
local macro_rules | `(tactic| walk_at "call builtin:_struct.pack") => `(tactic| ((with_reducible show wpAny _ _ (call (Value.builtin _) [Value.str _ _, Value.int _ _]) _ _ _); k_dflt (first | (refine' pack_B ?h0 ?h1 ?_; (case h0 => omega); (case h1 => omega)) | (refine' pack_q ?h0 ?h1 ?_; (case h0 => omega); (case h1 => omega))); intro t'))
local macro_rules | `(tactic| ktr_rel) => `(tactic| exact back_led (by assumption) (by assumption) (by assumption) (by assumption) (by assumption) (fun p hp => .inr hp))
local macro_rules | `(tactic| ktr_unf) => `(tactic| first | omega | ((try dsimp only [Around.deeper, Around.in1, Around.mark]); (try simp only [dU, uU]); (try dsimp only [ktrTop, Around.deeper, Around.in1, Around.mark]); omega))
local macro_rules | `(tactic| k_enter) => `(tactic| (ktr_enter; intro g' L' h' kg' lL' FG' F' N' B' X' T'; (try dsimp only); (try k_fold)))
local macro_rules | `(tactic| walk_at "call ref") => `(tactic| (k_here; k_dflt (refine' call_clsK ?k1 ?k2 ?k3 ?k4 ?k5 ?k6 ?_; (case k1 => k_asm); (case k2 => k_asm); (case k3 => k_asm); (case k4 => k_is); (case k5 => k_is); (case k6 => k_is); k_whole; intro x' d' h' x1 l1 l2 F' N'; (try ((have l9 := news_lt (by assumption) l1); (k_lt l9))); (try k_lt2 l1); (try k_lt2 l2); (try k_sweep); k_enter)))

local macro_rules | `(tactic| walk_at "getMethod ref") => `(tactic| ((with_reducible show wpAny _ _ (getMethod (Value.ref 57) (Str.ofString "keys") _) _ _ _); k_dflt (refine' getKeys (D := D8) ?K ?F ?_; (case K => exact map57 (by k_asm)); (case F => k_asm))))
local macro_rules | `(tactic| walk_at "getMethod ref") => `(tactic| ((with_reducible show wpAny _ _ (getMethod (Value.ref 58) (Str.ofString "keys") _) _ _ _); k_dflt (refine' getKeys (D := D8) ?K ?F ?_; (case K => exact map58 (by k_asm)); (case F => k_asm))))
local macro_rules | `(tactic| walk_at "call builtin:dict.keys") => `(tactic| ((with_reducible show wpAny _ _ (call (Value.builtin "dict.keys") [Value.ref 57]) _ _ _); k_dflt (refine' callKeys (D := D8) ?K ?F ?N ?_; (case K => exact map57 (by k_asm)); (case F => k_asm); (case N => k_asm)); intro v9 h9 F9 N9 l9; (try k_lt l9); (try k_sweep)))
local macro_rules | `(tactic| walk_at "call builtin:dict.keys") => `(tactic| ((with_reducible show wpAny _ _ (call (Value.builtin "dict.keys") [Value.ref 58]) _ _ _); k_dflt (refine' callKeys (D := D8) ?K ?F ?N ?_; (case K => exact map58 (by k_asm)); (case F => k_asm); (case N => k_asm)); intro v9 h9 F9 N9 l9; (try k_lt l9); (try k_sweep)))
local macro_rules | `(tactic| walk_at "call type:list") => `(tactic| ((with_reducible show wpAny _ _ (call (Value.type _) [Value.ref _]) _ _ _); k_dflt (first | (refine' listKeys (a := 57) ?K ?hh ?F ?N ?hv ?_; (case K => exact map57 (by k_asm)); (case hh => exact rfl); (case F => k_asm); (case N => k_asm); (case hv => k_mem)) | (refine' listKeys (a := 58) ?K ?hh ?F ?N ?hv ?_; (case K => exact map58 (by k_asm)); (case hh => exact rfl); (case F => k_asm); (case N => k_asm); (case hv => k_mem))); intro B9 c9 h9 tk9 t91 t92 t93 t94 t95 t96 t97 t98 F9 N9 l9; (try k_lt l9); (try k_sweep)))
local macro_rules | `(tactic| walk_at "binaryOp Mod str ref") => `(tactic| (k_dflt (first | (refine' modL (Y := F1) ?e meetsL ?hg ?hu ?F ?N ?hB ?_; (case e => decide +kernel); (case hg => exact rfl); (case hu => ((show _ < 9900); ktr_unf)); (case F => k_asm); (case N => k_asm); (case hB => k_mem)) | (refine' modL (Y := F2) ?e meetsL2 ?hg ?hu ?F ?N ?hB ?_; (case e => decide +kernel); (case hg => exact rfl); (case hu => ((show _ < 9900); ktr_unf)); (case F => k_asm); (case N => k_asm); (case hB => k_mem))); intro h9 tk9 T9 u9 F9 N9; (try k_sweep)))
local macro_rules | `(tactic| walk_at "leaving ref") => `(tactic| (first
  | (refine' leave_raiseS ?k1 ?k0 ?k2 ?k3 ?_; (case k0 => first | assumption | exact Heap.MadeExc.of (by assumption)); (case k2 => assumption); (case k1 => assumption); (case k3 => k_asm); k_whole; intro h' t' S' R' U'; (try dsimp only at S' R' U' ⊢))
  | (refine' leave_onS ?k1 ?k2 ?k3 ?k4 ?_; (case k3 => assumption); (case k2 => assumption); (case k1 => assumption); (case k4 => assumption); k_whole; intro h' S' R' U'; (try dsimp only at S' R' U' ⊢))))

local macro_rules | `(tactic| walk_at "subscriptTail") => `(tactic| ((with_reducible show wpAny _ _ (subscriptTail _ _ (Value.ref (Fx.pool _)) (Value.int ((Fin.val _ : Nat) : Int) _)) _ _ _); k_dflt (refine' item3 (fun j => Value.ref (Fx.loc _ j)) ?N ?m ?_; (case N => k_asm); (case m => k_mem)); (try dsimp only)))
local macro_rules | `(tactic| walk_at "subscriptTail") => `(tactic| ((with_reducible show wpAny _ _ (subscriptTail _ _ (Value.ref (Fx.cells _)) (Value.int ((Fin.val _ : Nat) : Int) _)) _ _ _); k_dflt (refine' item3 (fun j => Value.ref (Fx.c _ j)) ?N ?m ?_; (case N => k_asm); (case m => k_mem)); (try dsimp only)))
local macro_rules | `(tactic| walk_at "subscriptTail") => `(tactic| ((with_reducible show wpAny _ _ (subscriptTail _ _ (Value.ref (Fx.plans _)) (Value.int ((Fin.val _ : Nat) : Int) _)) _ _ _); k_dflt (refine' item2 (fun j => Value.ref (Fx.x _ j)) ?N ?m ?_; (case N => k_asm); (case m => k_mem)); (try dsimp only)))
local macro_rules | `(tactic| walk_at "subscriptTail") => `(tactic| ((with_reducible show wpAny _ _ (subscriptTail _ _ (Value.ref (Fx.picks _)) (Value.int ((Fin.val _ : Nat) : Int) _)) _ _ _); k_dflt (refine' item2 (fun j => Value.ref (Fx.pk _ j)) ?N ?m ?_; (case N => k_asm); (case m => k_mem)); (try dsimp only)))
local macro_rules | `(tactic| walk_at "call builtin:len") => `(tactic| ((with_reducible show wpAny _ _ (call (Value.builtin "len") [Value.ref _]) _ _ _); k_dflt (refine' len_led ?N ?m ?s ?f ?_; (case N => k_asm); (case m => k_mem); (case s => assumption); (case f => assumption)); intro t9 k9))

local macro_rules | `(tactic| ktr_enter) => `(tactic| (
  refine' enterSC ?k1 ?k2 ?k3 ?k4 ?k5 ?kA ?kK ?k6 ?k7 ?k8 ?k9 ?kB ?kD ?_ ?c2 ?c3 ?c4;
  (case kA => exact rfl); (case kK => assumption); (case k1 => assumption); (case k2 => assumption); (case k3 => assumption); (case k4 => assumption); (case k5 => assumption);
  (case k6 => k_is); (case k7 => k_is); (case k8 => first | (simp only [recursionLimit]; omega) | ktr_room); (case k9 => exact BindsTo.of_eq rfl); (case kB => exact rfl); (case kD => decide +kernel); (case c2 => exact rfl); (case c3 => exact rfl); (case c4 => exact rfl)))
local macro_rules | `(tactic| walk_at "LeaveS0") => `(tactic| refine Stop.mk ?_)
local macro_rules | `(tactic| walk_at "CompSrc") => `(tactic| refine Stop.mk ?_)
local macro_rules | `(tactic| walk_at "TurnC") => `(tactic| refine Stop.mk ?_)
local macro_rules | `(tactic| walk_at "exec For") => `(tactic| refine Stop.mk ?_)
local macro_rules | `(tactic| walk_at "exec Try") => `(tactic| refine Stop.mk ?_)
local macro_rules | `(tactic| walk_at "call ref") => `(tactic| ((try dsimp only [List.cons_append, List.nil_append]); (with_reducible show wpAny _ _ (call (Value.ref 280) [Value.ref _]) _ _ _); k_dflt (refine' mark_ok ?B ?F ?X ?T ?hk ?hd ?hu ?N ?_; (case B => k_asm); (case F => k_asm); (case X => k_asm); (case T => k_asm); (case hk => first | exact rfl | assumption); (case hd => ktr_unf); (case hu => ktr_unf); (case N => exact news1 (by k_asm) (by k_mem))); intro h9 t9 tk9 K9; (have N9 := K9.news0 (by assumption)); (have F9 := K9.fr)))
local macro_rules | `(tactic| walk_at "call ref") => `(tactic| ((try dsimp only [List.cons_append, List.nil_append]); (with_reducible show wpAny _ _ (call (Value.ref 313) [Value.bytes _ _]) _ _ _); k_dflt (refine' read_ok ?B ?F ?X ?T ?hk ?hd ?hu ?hb ?_; (case B => k_asm); (case F => k_asm); (case X => k_asm); (case T => k_asm); (case hk => first | exact rfl | assumption); (case hd => ktr_unf); (case hu => ktr_unf); (case hb => assumption)); intro h9 t9 tk9 K9; (have N9 := K9.news0 (by assumption)); (have F9 := K9.fr)))
local macro_rules | `(tactic| walk_at "call ref") => `(tactic| ((try dsimp only [List.cons_append, List.nil_append]); (with_reducible show wpAny _ _ (call (Value.ref 252) [Value.ref _]) _ _ _); k_dflt (refine' get_ok ?B ?F ?X ?T ?hk ?hd ?hu ?N ?_; (case B => k_asm); (case F => k_asm); (case X => k_asm); (case T => k_asm); (case hk => first | exact rfl | assumption); (case hd => ktr_unf); (case hu => ktr_unf); (case N => exact news2 (by k_asm) (by k_mem) (by k_mem))); intro h9 tk9 K9; (have N9 := K9.news0 (by assumption)); (have F9 := K9.fr)))
local macro_rules | `(tactic| walk_at "call ref") => `(tactic| ((with_reducible show wpAny _ _ (call (Value.ref 306) _ _) _ _ _); refine Stop.mk ?_))
local macro_rules | `(tactic| walk_at "call ref") => `(tactic| ((with_reducible show wpAny _ _ (call (Value.ref _) [Value.bytes _ _, Value.bytes _ _] _) _ _ _); refine Stop.mk ?_))
local macro_rules | `(tactic| walk_at "call ref") => `(tactic| ((with_reducible show wpAny _ _ (call (Value.ref 224) _ _) _ _ _); refine Stop.mk ?_))
local macro_rules | `(tactic| walk_at "call ref") => `(tactic| ((with_reducible show wpAny _ _ (call (Value.ref 255) _ _) _ _ _); refine Stop.mk ?_))
local macro_rules | `(tactic| walk_at "eval Name") => `(tactic| (k_dflt (refine' nameX_L ?k1 ?k2 ?_; (case k1 => k_asm); (case k2 => first | assumption | exact rfl | ((simp (decide := true) only [↓reduceIte]); assumption)))))
local macro_rules | `(tactic| walk_at "execs cons") => `(tactic| ((with_reducible show wpAny _ _ (execs (Stmt.Assign _ (Expr.BinOp _ _ _ _) _ :: _) _) _ _ _); refine Stop.mk ?_))
local macro_rules | `(tactic| walk_at "subscriptTail") => `(tactic| ((with_reducible show wpAny _ _ (subscriptTail _ (Expr.Slice _ _ none _) (Value.bytes _ _) (Value.ref _)) _ _ _); (with_reducible rename Fr _ _ _ _ => F'); (with_reducible rename News _ _ _ _ => N'); k_dflt (refine KBc.slice_K (s := ⟨_, _, _, _, _⟩) F' N' (by assumption) (by constructor) (by constructor) (by omega) ?_); intro h9 t9 k9 F9 N9 kbcK; (have Hb9 := Eq.trans kbcK (cutR (by assumption))); clear kbcK))
section
variable {w : World} {A₀ : Around} {s : Shared} {base h₀ : Heap} {L : Addr} {m : Str → Option Value} {mean : ExcName → Option Value} {mg mb : Str → Option Value}
  {Q E : Value → Shared → Prop} {dp un : Nat} {cn : Str} {cs : Scope} {a : Addr} {ccd : Value}
theorem back_ok {f : Fx} {v : Sv} {d : Fin 2} (B : Below A₀ base [] h₀) (F : Fr h₀ L s.heap m) (X : (hd.heap_39 w.params).In h₀) (T : Top hd.view_39 LO mean mg mb h₀) (XTB : BaseOk w mean mg mb base)
   (hke : cs.kind = .function) (hdp : dp + 70 < 1000) (hun : un + 700 < 9900) (N : News h₀ L s.heap (Wd w f v)) (I : Inv f v)
   (hQ : ∀ h' tk', Back h₀ L m [] s.heap h' → Q (.bool true) { s with heap := h', toks := tk' }) :
   wpAny (model PySem.Challenge.rw_eh5030_01.row.prog w) (ktrTop dp un (some []) cn cs L a ccd [] []) (call (.ref 318) [.ref (f.x d), .ref (f.pk d), .ref f.cells] []) Q E s := by
  refine wpAny_call ?_
  k_dflt ktr_enter
  have hN := gets N
  intro g L' h₁ tk cells kg lL FG F N Y B X T D l1
  k_cells Y
  (try dsimp only); (try k_fold)
  rename Obj => oc
  rename _ = Data.cell _ => dc0
  have dc := dc0
  replace dc : _ = Data.cell (some (.ref f.cells)) := dc
  clear dc0
  generalize hmm : bindL _ _ _ = mm at F
  have p1 : mm (Str.ofString "plan") = some (.ref (f.x d)) := by rw [← hmm]; rfl
  have p2 : mm (Str.ofString "picks") = some (.ref (f.pk d)) := by rw [← hmm]; rfl
  clear hmm
  have hL9 := F.ns.lt
  have hfs : ∀ b ∈ [envOf cn cs L a ccd].filterMap (·.frame), b = L := fun b hb => by
    rcases kts_mem hb with z | z
    · exact z
    · cases z
  have N0 := news_app (news_app (news_sub N (fun p hp => List.mem_append_right _ (wd_plan d p hp))) (news_app (news_sub N (fun p hp => by rw [List.mem_singleton.mp hp]; exact List.mem_append_right _ (wd_pick d) : ∀ p ∈ [pickN f v d], p ∈ _)) (news_sub N (fun p hp => List.mem_append_right _ (wd_top p hp))))) N
  simp only [List.cons_append, List.nil_append] at N0 N
  have hz2 : ((pickVs v d).toArray).size = (v.pv d).es.length := by rw [List.size_toArray, List.length_map, ← List.length_map (f := (·.1)), I.picks d, List.length_map]
  have hz3 : (v.pv d).es.length < 100000 := Nat.lt_trans (I.small d) (by decide)
  k_steps
  refine Stop.of ?_
  refine' compSrc_inv ?hh ?F ?N ?hm ?hsz (fun i ys => IntsAre ys ((msOf f v d).take i)) ?h0 ?turn ?fin
  case hh => rfl
  case F => assumption
  case N => assumption
  case hm => k_mem
  case hsz => rw [hz2]; exact hz3
  case h0 => exact .nil
  case turn =>
    intro i x ys I' oI C oC D' m₂ h₃ tk₃ E' hx hR hC hm₂ F₃ N₃
    obtain ⟨j, t, hj, rfl⟩ : ∃ j t, (v.kv d).is[i]? = some (j, t) ∧ x = .int ((j.val : Nat) : Int) t := by
      simp only [List.getElem?_toArray, List.getElem?_map] at hx
      obtain ⟨e', h1, h2⟩ := Option.map_eq_some_iff.mp hx
      exact ⟨e'.1, e'.2, h1, h2.symm⟩
    have N₄ := news_app (news_sub N₃ (fun p hp => by rw [List.mem_singleton.mp hp]; exact List.mem_append_right (_ :: _ :: _ :: _ :: _ :: _ :: _ :: _ :: _ :: _ :: _ :: _ :: []) (wd_cell j) : ∀ p ∈ [cellN f v j], p ∈ _)) N₃
    simp only [List.cons_append, List.nil_append] at N₄
    k_steps
    refine Stop.of ?_
    refine ⟨_, _, rfl, by assumption, news_drop 1 (by assumption), ?_⟩
    rw [List.take_add_one, List.getElem?_map, hj]
    refine hR.append ?_
    show IntsAre _ [mk (lcOf f v j)]
    have e9 : fA (v.cv j).high (f.sz j) / 8 * 16 + fA (v.cv j).low (f.ad j) / 8 = mk (lcOf f v j) := by rw [I.high j, I.low j]
    rw [e9]
    exact .cons _ _ .nil
  intro g9 ys hR
  have hil : (v.kv d).is.length = (v.pv d).es.length := by rw [← List.length_map (f := (·.1)), I.picks d, List.length_map]
  have hR' : IntsAre ys (msOf f v d) := by rwa [hz2, List.take_of_length_le (by rw [List.length_map]; omega)] at hR
  have hlen : ys.toArray.size = (v.pv d).es.length := by
    rw [List.size_toArray, hR'.length, List.length_map]; exact hil
  clear hR
  obtain ⟨b, hb⟩ : ∃ b : Bool, (b = true ↔ (ensOf f v d ≠ [] ∧ Alike (ensOf f v d))) := ⟨@decide _ (Classical.propDecidable _), @decide_eq_true_iff _ (Classical.propDecidable _)⟩
  k_steps
  · refine Stop.of ?_
    show LeaveS0 _ _ _ _ _ _ _ _
    refine' leave_true ?hx ?F0 ?N0 KtsTurn.refl fun kF => hQ _ _ (back_ledS kg KtsTurn.refl hfs hN kF ?F1 ?N1 (fun p hp => .inr ?sb))
    case F0 => assumption
    case N0 => assumption
    case F1 => assumption
    case N1 => assumption
    case hx => rfl
    case sb => repeat (first | exact hp | refine List.Mem.tail _ ?_)
  rotate_left
  · refine Stop.of ?_
    show LeaveS0 _ _ _ _ _ _ _ _
    refine' leave_true ?hx ?F0 ?N0 KtsTurn.refl fun kF => hQ _ _ (back_ledS kg KtsTurn.refl hfs hN kF ?F1 ?N1 (fun p hp => .inr ?sb))
    case F0 => assumption
    case N0 => assumption
    case F1 => assumption
    case N1 => assumption
    case hx => rfl
    case sb => repeat (first | exact hp | refine List.Mem.tail _ ?_)
  refine Stop.of ?_
  have hpos : 0 < (((v.pv d).es.length : Nat) : Int) := by omega
  have hbt : b = true := by rw [← alike_ms I hb hpos]; exact decide_eq_true (by assumption)
  obtain ⟨hne, hal⟩ := hb.mp hbt
  obtain ⟨e0, rest, k, j, hes, hem, hk1, hk2, hj1, hj2, hkj, hm0, hpar, hla, hlm, hreq, hreq2⟩ := back_facts I hne hal
  have hlow : ((msOf f v d).getD (Int.toNat 0) 0).fmod 16 = (k : Int) := by rw [hm0, Int.fmod_eq_emod_of_nonneg _ (by decide)]; omega
  have hhigh : ((msOf f v d).getD (Int.toNat 0) 0).fdiv 16 = (j : Int) := by rw [hm0, Int.fdiv_eq_ediv_of_nonneg _ (by decide)]; omega
  have hsm : (ensOf f v d).length < 1000 := by rw [List.length_map]; exact I.small d
  refine joinI (Str.ofString "low") (k : Int) (by assumption) (by assumption) ?jA ?jB
  case jA =>
    k_steps
    exact ⟨rfl, _, _, _, rfl, by rw [← hlow]; assumption, by assumption⟩
  intro h₃ tk₃ t₃ F₃ N₃
  k_steps
  refine Stop.of ?_
  refine joinI (Str.ofString "high") (j : Int) (by assumption) (by assumption) ?jC ?jD
  case jC =>
    k_steps
    exact ⟨rfl, _, _, _, rfl, by rw [← hhigh]; assumption, by assumption⟩
  intro h₄ tk₄ t₄ F₄ N₄
  k_steps
  refine Stop.of ?_
  refine' request_ok (es := ensOf f v d) (e := e0) (rest := rest) ?B ?F ?X ?T rfl (by ktr_unf) (by ktr_unf) ?N (fun e' he' => (hpar e' he').1) hes hal hsm ?_
  case B => assumption
  case F => assumption
  case X => assumption
  case T => assumption
  case N => exact news_sub N₄ (fun p hp => List.mem_append_right (_ :: _ :: _ :: _ :: _ :: _ :: _ :: _ :: _ :: _ :: _ :: _ :: []) (wd_did d p hp))
  intro rb h₅ t₅ tk₅ hrb K5
  have N₅ := K5.news0 N₄
  have F₅ := K5.fr
  generalize hrk : mk e0.l :: reqI (ensOf f v d) = rk at hrb hreq hreq2
  have hrk0 : rk.getD (Int.toNat 0) 0 = (msOf f v d).getD (Int.toNat 0) 0 := by rw [← hrk]; exact hkj.trans hm0.symm
  have hrk1 : 0 < (rk.length : Int) := by rw [← hrk, List.length_cons]; omega
  k_steps
  · exact absurd hrk0 (by assumption)
  · exact absurd hreq (by assumption)
  refine Stop.of ?_
  have N₅₀ := news_sub (b := backB w f v d (L' + 1) oc) (by assumption) (by
    exact List.forall_mem_cons.mpr ⟨by k_mem, List.forall_mem_cons.mpr ⟨by k_mem, fun p hp => by
      rcases List.mem_append.mp hp with hp | hp
      · simp only [List.mem_cons, List.not_mem_nil, or_false] at hp
        rcases hp with rfl | rfl | rfl | rfl <;> k_mem
      · exact List.mem_append_right (_ :: _ :: _ :: _ :: _ :: _ :: _ :: _ :: _ :: _ :: _ :: _ :: []) hp⟩⟩)
  refine' mkDid0_ok ?B ?F ?X ?T rfl (by ktr_unf) (by ktr_unf) ?_
  case B => assumption
  case F => assumption
  case X => assumption
  case T => assumption
  intro x dx le q1 q2 n₀ h₆ tk₆ K6 o1 o2 o3 NS
  have hlt := news_lt N₅₀ o1
  have N₆ := news_app NS (K6.news0 N₅₀)
  have F₆ := K6.fr
  simp only [List.cons_append, List.nil_append] at N₆
  k_steps
  refine Stop.of ?_
  refine' ForG (L := L') (le := f.pk d) (its := (pickVs v d).toArray) (n := (v.kv d).n) ?hL ([envOf cn cs L a ccd].filterMap (·.frame)) (fun g => Below (ktrTop dp un (some []) cn cs L a ccd [] []) base [envOf cn cs L a ccd] g ∧ (hd.heap_39 w.params).In g ∧ Top hd.view_39 LO mean mg mb g) ⟨B, X, T⟩ ?F ?N ?hle ?hh ?hx ?hp ?hit
    (BackJ w f v d k j x dx le (backB w f v d (L' + 1) oc) rb t₃ t₄ t₅) ?h0 ?step ?keepL ?done ?hs ?hE
  case hL => rfl
  case hh => rfl
  case hx => rfl
  case hp => rfl
  case F => assumption
  case N => assumption
  case hle => k_mem
  case hit => exact fun h => nameX_L (by assumption) (by (simp (decide := true) only [↓reduceIte]); assumption) h
  case hs => intro _; rfl
  case hE => passes_own
  case h0 =>
    have hz0 : (1 : Int) = 1 + ((0 * (k + j) : Nat) : Int) := by rw [Nat.zero_mul]; rfl
    refine' ⟨n₀, q1, q2, ?tp, [], rfl, fun _ => rfl, fun _ => ⟨rfl, fun q e e' _ h => by simp at h⟩, fun p hp => by simp at hp, ?pl, rfl, rfl, rfl, rfl, p2⟩
    case pl => exact congrArg (fun z : Int => some (Value.int z _)) hz0
  case keepL =>
    rintro i m₁ news₁ ⟨n, q0, q1, tp, se, rfl, _⟩
    exact List.mem_append_right _ (.head _)
  case done =>
    intro g₂ h₈ tk₈ m₂ news₂ TT ⟨B₂, X₂, T₂⟩ F₂ N₂ ⟨n, q0, q1', tp, se, hnw, hP, hnP, hgt, hpl, hlo, hhi, hrq, hsv, hpi⟩
    subst hnw
    have N₃ := news_app (news_sub (b := [(x, instObj 255 dx), (dx, dictOf (didEs w q0 q1' le (vD (!se.isEmpty))) 2), (le, listOf (itsOf se) n), pickN f v d]) N₂ (by
      exact List.forall_mem_cons.mpr ⟨.head _, List.forall_mem_cons.mpr ⟨.tail _ (.head _), List.forall_mem_cons.mpr ⟨.tail _ (.tail _ (.head _)), List.forall_mem_cons.mpr ⟨List.mem_append_right _ (.head _), List.forall_mem_nil _⟩⟩⟩⟩)) N₂
    rw [List.cons_append, List.cons_append, List.cons_append, List.cons_append, List.nil_append] at N₃
    by_cases hbad : 5 < k ∨ 4 < j
    · have hse0 : (itsOf se).size = 0 := by rw [hP hbad]; rfl
      have hz0 : 0 < 100000 := by decide
      k_steps
      all_goals
        refine Stop.of ?_
        show LeaveS0 _ _ _ _ _ _ _ _
        refine' leave_true ?hx ?F0 ?N0 TT fun kF => hQ _ _ (back_ledS kg TT hfs hN kF ?F1 ?N1 (fun p hp => .inr ?sb))
        case F0 => assumption
        case N0 => assumption
        case F1 => assumption
        case N1 => assumption
        case hx => rfl
        case sb => repeat (first | exact List.mem_append_right _ (.tail _ (.tail _ (List.mem_append_right _ hp))) | refine List.Mem.tail _ ?_)
    · obtain ⟨hse, hblk⟩ := hnP hbad
      have hsz9 : (itsOf se).size = (v.pv d).es.length := by
        rw [List.size_toArray, List.length_map, hse, hz2]
      obtain ⟨hrq9, hok9, hmk9⟩ := blk_all (by rw [hse, hz2, List.length_map]) hblk hpar hk1 (by omega) hj1 (by omega)
      obtain ⟨es, er, hse9⟩ : ∃ es er, se = es :: er := by
        cases hq : se with
        | nil => rw [hq, hz2] at hse; simp only [List.length_nil] at hse; omega
        | cons es er => exact ⟨es, er, rfl⟩
      have hal9 : Alike se := fun e1 h1 e2 h2 => (hmk9 e1 h1).trans (hmk9 e2 h2).symm
      have hsm9 : se.length < 1000 := by rw [hse, hz2]; exact I.small d
      have hes9 : mk es.l = mk e0.l := (hmk9 es (hse9 ▸ List.mem_cons_self)).trans hkj.symm
      k_steps
      · refine Stop.of ?_
        refine' request_ok (es := se) (e := es) (rest := er) ?B ?F ?X ?T rfl (by ktr_unf) (by ktr_unf) ?N hok9 hse9 hal9 hsm9 ?_
        case B => assumption
        case F => assumption
        case X => assumption
        case T => assumption
        case N => exact news_sub (by assumption) (fun p hp => List.mem_append_right (_ :: _ :: _ :: _ :: []) (List.mem_append_left _ hp))
        intro rb2 hA tA tkA hrb2 KA
        have hbb : rb2 = rb := bInts_inj (by rw [hrb2, hrb, ← hrk, hes9, hrq9])
        have NA := KA.news0 (by assumption)
        have FA := KA.fr
        k_steps
        refine Stop.of ?_
        show LeaveS0 _ _ _ _ _ _ _ _
        refine' leave_true ?hx ?F0 ?N0 TT fun kF => hQ _ _ (back_ledS kg TT hfs hN kF ?F1 ?N1 (fun p hp => .inr ?sb))
        case F0 => assumption
        case N0 => assumption
        case F1 => assumption
        case N1 => assumption
        case hx => rw [hbb]; exact beq_self_eq_true _
        case sb => repeat (first | exact List.mem_append_right _ (.tail _ (.tail _ (List.mem_append_right _ hp))) | refine List.Mem.tail _ ?_)
      · exact absurd rfl (by assumption)
  case step =>
    intro i vv m₁ news₁ g₁ h₇ tk₇ I₁ oI₁ hi hv TT ⟨B₁, X₁, T₁⟩ ⟨n, q0, q1', tp, se, hnw, hP, hnP, hgt, hpl, hlo, hhi, hrq, hsv, hpi⟩ hof hI F₇ N₇
    subst hnw
    obtain ⟨c, t, hc, rfl⟩ : ∃ c t, (v.kv d).is[i]? = some (c, t) ∧ vv = .int ((c.val : Nat) : Int) t := by
      simp only [List.getElem?_toArray, List.getElem?_map] at hv
      obtain ⟨e', h1, h2⟩ := Option.map_eq_some_iff.mp hv
      exact ⟨e'.1, e'.2, h1, h2.symm⟩
    obtain ⟨ev, hev, hci⟩ : ∃ ev, (v.pv d).es[i]? = some ev ∧ ev.i = c := by
      have h1 : ((v.kv d).is.map (·.1))[i]? = some c := by rw [List.getElem?_map, hc]; rfl
      rw [I.picks d, List.getElem?_map] at h1
      obtain ⟨ev, h2, h3⟩ := Option.map_eq_some_iff.mp h1
      exact ⟨ev, h2, h3⟩
    have hen : (ensOf f v d)[i]? = some (enOf f v ev) := by rw [List.getElem?_map, hev]; rfl
    have hmem := List.mem_of_getElem? hen
    subst hci
    obtain ⟨hc1, hc2⟩ : CutAt rk (1 + ((i * (k + j) : Nat) : Int)) (k : Int) (aI (lcOf f v ev.i)) ∧ CutAt rk (1 + ((i * (k + j) : Nat) : Int) + (k : Int)) (j : Int) (mI (lcOf f v ev.i)) := hrk ▸ reqI_cuts (m0 := mk e0.l) hla hlm hen
    have hl1 : (aI (lcOf f v ev.i)).length = k := hla _ hmem
    have hl2 : (mI (lcOf f v ev.i)).length = j := hlm _ hmem
    obtain ⟨hokc, hw1, hw2⟩ : LcOk (lcOf f v ev.i) ∧ fA (lcOf f v ev.i).low (lcOf f v ev.i).ad / 8 = (k : Int) ∧ fA (lcOf f v ev.i).high (lcOf f v ev.i).sz / 8 = (j : Int) := hpar _ hmem
    have hr1 : readI (aI (lcOf f v ev.i)) = f.ad ev.i % 256 ^ k := read_aI hw1 hk1 hk2 hokc.ha1
    have hr2 : readI (mI (lcOf f v ev.i)) = f.sz ev.i % 256 ^ j := read_mI hw2 hj1 hj2 hokc.hs1
    have hz1 : (256 : Int) ^ ((k : Int)).toNat ≠ 0 := by
      rw [Int.toNat_natCast]; exact Int.ne_of_gt (Int.pow_pos (by decide))
    have hz9 : (256 : Int) ^ ((j : Int)).toNat ≠ 0 := by
      rw [Int.toNat_natCast]; exact Int.ne_of_gt (Int.pow_pos (by decide))
    have hr1' : readI (aI (lcOf f v ev.i)) = (f.ad ev.i).fmod (256 ^ ((k : Int)).toNat) := by
      rw [hr1, Int.toNat_natCast, Int.fmod_eq_emod_of_nonneg _ (Int.le_of_lt (Int.pow_pos (by decide)))]
    have hr2' : readI (mI (lcOf f v ev.i)) = (f.sz ev.i).fmod (256 ^ ((j : Int)).toNat) := by
      rw [hr2, Int.toNat_natCast, Int.fmod_eq_emod_of_nonneg _ (Int.le_of_lt (Int.pow_pos (by decide)))]
    have N₈ := news_app (news_sub (b := [cellN f v ev.i, (L' + 1, oc), (f.cells, listOf #[.ref (f.c 0), .ref (f.c 1), .ref (f.c 2)] f.nc), (x, instObj 255 dx), (dx, dictOf (didEs w q0 q1' le (vD (!se.isEmpty))) 2), (le, listOf (itsOf se) n)]) N₇ (by
      exact List.forall_mem_cons.mpr ⟨.tail _ (List.mem_append_right _ (.tail _ (.tail _ (List.mem_append_right _ (wd_cell ev.i))))), List.forall_mem_cons.mpr ⟨.tail _ (List.mem_append_right _ (.tail _ (.head _))), List.forall_mem_cons.mpr ⟨.tail _ (List.mem_append_right _ (.tail _ (.tail _ (.tail _ (.head _))))),
        List.forall_mem_cons.mpr ⟨.tail _ (.head _), List.forall_mem_cons.mpr ⟨.tail _ (.tail _ (.head _)), List.forall_mem_cons.mpr ⟨.tail _ (.tail _ (.tail _ (.head _))), List.forall_mem_nil _⟩⟩⟩⟩⟩⟩)) N₇
    simp only [List.cons_append, List.nil_append] at N₈
    k_steps
    refine Stop.of ?_
    generalize KBy.picked rb (some (1 + ((i * (k + j) : Nat) : Int))) (some (1 + ((i * (k + j) : Nat) : Int) + (k : Int))) = bf at *
    generalize KBy.picked rb (some (1 + ((i * (k + j) : Nat) : Int) + (k : Int))) (some (1 + ((i * (k + j) : Nat) : Int) + (k : Int) + (j : Int))) = bs at *
    have hpl9 : (1 : Int) + (((i + 1) * (k + j) : Nat) : Int) = 1 + ((i * (k + j) : Nat) : Int) + (k : Int) + (j : Int) := by rw [Nat.succ_mul]; omega
    refine joinI (Str.ofString "place") (1 + (((i + 1) * (k + j) : Nat) : Int)) (by assumption) (by assumption) ?jE ?jF
    case jE =>
      k_steps
      exact ⟨rfl, _, _, _, rfl, by rw [hpl9]; assumption, by assumption⟩
    intro h₈ tk₈ t₈ F₈ N₈
    k_steps
    · exact absurd hr1' (by assumption)
    · exact absurd hr2' (by assumption)
    refine Stop.of ?_
    refine wpAny_Try_except ?_
    by_cases hbad : 5 < k ∨ 4 < j
    · obtain rfl := hP hbad
      k_steps
      refine Stop.of ?_
      refine call_meth (by assumption) (by k_mem) ?_
      refine' from_bytes_raiseC ?B ?F ?X ?T rfl (by ktr_unf) (by ktr_unf) ?hb ?hc ?hk8 ?hl8 ?hbad ?hE
      case B => assumption
      case F => assumption
      case X => assumption
      case T => assumption
      case hb => assumption
      case hc => assumption
      case hk8 => rw [hl1]; exact hk2
      case hl8 => rw [hl2]; exact hj2
      case hbad => rw [hl1, hl2]; exact hbad
      case hE =>
        intro e9 h9 tk9 Fl
        (try dsimp only)
        k_steps
        refine' val_catchX Fl ?F ?N ?B XTB.1 XTB.2 (by k_is) PyProof.Rows.Boot.«ValueError» (by decide) ?_ rfl rfl (by decide) (by passes_own)
        case F => assumption
        case N => assumption
        case B => assumption
        intro h6 g6 TT6 F6 N6 K6 X6 T6
        k_steps
        · exact (bad1 (by assumption) (by omega)).elim
        · refine' ⟨.inl rfl, _, _, _, _, _, rfl, TT.trans TT6, ⟨K6, X6, T6⟩, ?Fa, ?Na, hof, n, q0, q1', t₈, [], rfl, fun _ => rfl, fun z => absurd hbad z, (fun p hp => by cases hp), ?e1a, ?e2a, ?e3a, ?e4a, ?e5a, ?e6a⟩
          case Fa => assumption
          case Na => exact news_drop 7 (by assumption)
          case e1a => (simp (decide := true) only [↓reduceIte])
          case e2a => (simp (decide := true) only [↓reduceIte]); assumption
          case e3a => (simp (decide := true) only [↓reduceIte]); assumption
          case e4a => (simp (decide := true) only [↓reduceIte]); assumption
          case e5a => (simp (decide := true) only [↓reduceIte]); assumption
          case e6a => (simp (decide := true) only [↓reduceIte]); assumption
        · exact (bad1 (by assumption) (by omega)).elim
        · refine' ⟨.inl rfl, _, _, _, _, _, rfl, TT.trans TT6, ⟨K6, X6, T6⟩, ?Fb, ?Nb, hof, n, q0, q1', t₈, [], rfl, fun _ => rfl, fun z => absurd hbad z, (fun p hp => by cases hp), ?e1b, ?e2b, ?e3b, ?e4b, ?e5b, ?e6b⟩
          case Fb => assumption
          case Nb => exact news_drop 7 (by assumption)
          case e1b => (simp (decide := true) only [↓reduceIte])
          case e2b => (simp (decide := true) only [↓reduceIte]); assumption
          case e3b => (simp (decide := true) only [↓reduceIte]); assumption
          case e4b => (simp (decide := true) only [↓reduceIte]); assumption
          case e5b => (simp (decide := true) only [↓reduceIte]); assumption
          case e6b => (simp (decide := true) only [↓reduceIte]); assumption
    · k_steps
      refine Stop.of ?_
      refine call_meth (by assumption) (by k_mem) ?_
      refine' from_bytes_okC ?B ?F ?X ?T rfl (by ktr_unf) (by ktr_unf) ?hb ?hc ?hk1 ?hk5 ?hl1 ?hl4 ?hQ
      case B => assumption
      case F => assumption
      case X => assumption
      case T => assumption
      case hb => assumption
      case hc => assumption
      case hk1 => rw [hl1]; exact hk1
      case hk5 => rw [hl1]; omega
      case hl1 => rw [hl2]; exact hj1
      case hl4 => rw [hl2]; omega
      case hQ =>
        intro l e1 e2 e3 e4 h9 tk9 K9 r1 r2 r3 r4 NN9
        have hlt9 := news_lt (by assumption) r1
        have ge1 : @LT.lt Nat _ le l.dloc := hlt9 (le, _) (by k_mem)
        have ge2 : @LT.lt Nat _ I₁ l.dloc := hlt9 (I₁, _) (by k_mem)
        have N9 := news_app NN9 (K9.news0 (by assumption))
        have F9 := K9.fr
        rw [hl1] at e3
        rw [hl2] at e4
        obtain ⟨loc, dloc, al, dal, lad, lsz, llow, lhigh, z0, z1, z2, z3, z4, za, zs, zl, zh, z5, z6, zu, zv⟩ := l
        dsimp only at e1 e2 e3 e4 r1 r2 r3 r4 ge1 ge2
        subst e1 e2 e3 e4
        simp only [List.cons_append, List.nil_append] at N9
        have u1 : @LT.lt Nat _ dx x := o2
        have u2 : @LT.lt Nat _ x le := o3
        have u3 : @LT.lt Nat _ dloc loc := r2
        have u4 : @LT.lt Nat _ loc dal := r3
        have u5 : @LT.lt Nat _ dal al := r4
        clear hlt9
        k_steps
        · exact (bad2 (by assumption) (by omega)).elim
        · refine Stop.of ?_
          obtain ⟨hse, hblk⟩ := hnP hbad
          have hsz9 : (itsOf se).size < 1000 := by
            rw [List.size_toArray, List.length_map, hse]
            have := I.small d
            rw [hz2] at hi
            omega
          refine' add_pos (b := !se.isEmpty) (its := itsOf se) (n := n) (t0 := q0) (t1 := q1') ?B ?F ?X ?T rfl (by ktr_unf) (by ktr_unf) (Nat.ne_of_lt u1) (Nat.ne_of_gt u2) ?n3 ?n4 ?n5 ?n6 ?n7 ?n8 ?N hsz9 ?hQ
          case B => assumption
          case F => assumption
          case X => assumption
          case T => assumption
          case N => exact news5 (by assumption) (by k_mem) (by k_mem) (by k_mem) (by k_mem) (by k_mem)
          case n3 => (show @Ne Nat _ _); omega
          case n4 => (show @Ne Nat _ _); (try dsimp only); omega
          case n5 => (show @Ne Nat _ _); (try dsimp only); omega
          case n6 => (show @Ne Nat _ _); (try dsimp only); omega
          case n7 => (show @Ne Nat _ _); (try dsimp only); omega
          case n8 => (show @Ne Nat _ _); (try dsimp only); omega
          case hQ =>
            intro en den k0 y1 y2 hA tkA KA oA1 oA2 NNA
            have hIa : @LT.lt Nat _ I₁ den := news_lt (by assumption) oA1 (I₁, _) (by k_mem)
            have hla : @LT.lt Nat _ le den := news_lt (by assumption) oA1 (le, _) (by k_mem)
            have u6 : @LT.lt Nat _ den en := oA2
            have NI : News g₁ L' hA [(I₁, oI₁)] := KA.news (news1 (by assumption) (by k_mem)) (fun p hp => by
              rw [List.mem_singleton.mp hp]
              have h1 := hof (dx, _) (.tail _ (.head _))
              have h2 := hof (le, _) (.tail _ (.tail _ (.head _)))
              dsimp only at h1 h2
              simp only [List.mem_cons, List.not_mem_nil, or_false, not_or]
              exact ⟨(by (show @Ne Nat _ _); omega), (by (show @Ne Nat _ _); omega)⟩)
            have NF : News g₁ L' hA (se.flatMap (entNews w)) := KA.news (news_sub (by assumption) (fun p hp => by repeat (first | exact List.mem_append_left _ hp | refine List.Mem.tail _ ?_))) (fun p hp => by
              have h1 := hgt p hp
              simp only [List.mem_cons, List.not_mem_nil, or_false, not_or]
              exact ⟨(by (show @Ne Nat _ _); omega), (by (show @Ne Nat _ _); omega)⟩)
            have NL := KA.news (news4 (by assumption) (a := (loc, _)) (b := (dloc, _)) (c := (al, _)) (d := (dal, _)) (by k_mem) (by k_mem) (by k_mem) (by k_mem)) (fun p hp => by
              simp only [List.mem_cons, List.not_mem_nil, or_false] at hp
              simp only [List.mem_cons, List.not_mem_nil, or_false, not_or]
              rcases hp with rfl | rfl | rfl | rfl <;> exact ⟨(by (show @Ne Nat _ _); dsimp only; omega), (by (show @Ne Nat _ _); dsimp only; omega)⟩)
            have NB : News g₁ L' hA (backB w f v d (L' + 1) oc) := KA.news (news_sub (by assumption) (fun p hp => by repeat (first | exact List.mem_append_right _ hp | refine List.Mem.tail _ ?_))) (fun p hp => by
              have h1 : @LT.lt Nat _ p.1 dx := hlt p hp
              simp only [List.mem_cons, List.not_mem_nil, or_false, not_or]
              exact ⟨(by (show @Ne Nat _ _); omega), (by (show @Ne Nat _ _); omega)⟩)
            have ND := did_snoc (l := ⟨loc, dloc, al, dal, readI (aI (lcOf f v ev.i)), readI (mI (lcOf f v ev.i)), some ((k : Int) * 8), some ((j : Int) * 8), z0, z1, z2, z3, z4, za, zs, zl, zh, z5, z6, zu, zv⟩) NNA NF NL
            have N10 := news_app NI (news_app ND NB)
            rw [List.cons_append, List.nil_append] at N10
            have F10 := KA.fr
            have hB9 : Blk k j (lcOf f v ev.i) ⟨loc, dloc, al, dal, readI (aI (lcOf f v ev.i)), readI (mI (lcOf f v ev.i)), some ((k : Int) * 8), some ((j : Int) * 8), z0, z1, z2, z3, z4, za, zs, zl, zh, z5, z6, zu, zv⟩ := ⟨rfl, rfl, rfl, rfl⟩
            have hbs := blk_snoc (en := ⟨en, den, k0, ⟨loc, dloc, al, dal, readI (aI (lcOf f v ev.i)), readI (mI (lcOf f v ev.i)), some ((k : Int) * 8), some ((j : Int) * 8), z0, z1, z2, z3, z4, za, zs, zl, zh, z5, z6, zu, zv⟩⟩) hse hblk hen hB9
            k_steps
            refine' ⟨.inl rfl, _, _, _, _, _, rfl, TT, ⟨B₁, X₁, T₁⟩, ?Fc, ?Nc, ?oc, n + 1, y1, y2, t₈, se ++ [⟨en, den, k0, ⟨loc, dloc, al, dal, readI (aI (lcOf f v ev.i)), readI (mI (lcOf f v ev.i)), some ((k : Int) * 8), some ((j : Int) * 8), z0, z1, z2, z3, z4, za, zs, zl, zh, z5, z6, zu, zv⟩⟩], rfl, fun z => absurd z hbad, fun _ => hbs, ?gt, ?e1c, ?e2c, ?e3c, ?e4c, ?e5c, ?e6c⟩
            case Fc => assumption
            case Nc => assumption
            case oc =>
              intro p hp
              rcases List.mem_append.mp hp with hp | hp
              · rcases List.mem_cons.mp hp with rfl | hp
                · have h9 := hof (x, _) (.head _)
                  exact h9
                rcases List.mem_cons.mp hp with rfl | hp
                · have h9 := hof (dx, _) (.tail _ (.head _))
                  exact h9
                rcases List.mem_cons.mp hp with rfl | hp
                · have h9 := hof (le, _) (.tail _ (.tail _ (.head _)))
                  exact h9
                rcases flat_snoc hp with hp | e | e | e | e | e | e
                · exact hof p (List.mem_append_left _ (.tail _ (.tail _ (.tail _ hp))))
                all_goals
                  right
                  rw [e]
                  (try dsimp only)
                  omega
              · exact hof p (List.mem_append_right _ hp)
            case gt =>
              intro p hp
              rcases flat_snoc hp with hp | e | e | e | e | e | e
              · exact hgt p hp
              all_goals
                rw [e]
                (try dsimp only)
                omega
            case e1c => (simp (decide := true) only [↓reduceIte])
            case e2c => (simp (decide := true) only [↓reduceIte]); assumption
            case e3c => (simp (decide := true) only [↓reduceIte]); assumption
            case e4c => (simp (decide := true) only [↓reduceIte]); assumption
            case e5c => (simp (decide := true) only [↓reduceIte]); assumption
            case e6c => (simp (decide := true) only [↓reduceIte]); assumption
        · rename ¬ (_ = _) => hb9
          exact absurd (by rw [Int.mul_comm 8, Int.mul_comm 8]) hb9
end
end Mine
namespace Mine
open PySem PySem.Calls PySem.Spec
theorem rs_Z0 : True := by w_top off; trivial
local macro_rules | `(tactic| ktr_enter) => `(tactic| (
  refine' enterK ?k1 ?k2 ?k3 ?k4 ?k5 ?kA ?kF ?kK ?k6 ?k7 ?k8 ?k9 ?kB ?_ ?c5 ?c2 ?c3 ?c4;
  (case kA => exact rfl); (case kF => exact rfl); (case kK => first | assumption | exact rfl); (case k1 => assumption); (case k2 => assumption); (case k3 => assumption); (case k4 => assumption); (case k5 => assumption);
  (case k6 => k_is); (case k7 => k_is); (case k8 => first | (simp only [recursionLimit]; omega) | ktr_room); (case k9 => first | exact BindsTo.of_eq rfl | exact binds_K (by k_in) rfl (by k_is) rfl rfl rfl); (case c5 => decide); (case kB => exact locs rfl); (case c2 => exact rfl); (case c3 => exact rfl); (case c4 => exact rfl)))
local macro_rules | `(tactic| walk_at "subscriptTail") => `(tactic| ((with_reducible show wpAny _ _ (subscriptTail _ _ (Value.ref 58) (Value.int _ _)) _ _ _); k_dflt (refine' item58 ?F ?X ?h ?_; (case F => k_asm); (case X => k_asm); (case h => assumption)); intro t'))
local macro_rules | `(tactic| walk_at "subscriptTail") => `(tactic| ((with_reducible show wpAny _ _ (subscriptTail _ _ (Value.ref 57) (Value.int _ _)) _ _ _); k_dflt (refine' item57 ?F ?X ?h ?_; (case F => k_asm); (case X => k_asm); (case h => assumption)); intro t'))
local macro_rules | `(tactic| walk_at "compareOp NotIn int ref") => `(tactic| ((with_reducible show wpAny _ _ (compareOp CmpOp.NotIn (Value.int _ _) (Value.ref 58)) _ _ _); k_dflt (refine' notin58 ?F ?X ?_; (case F => k_asm); (case X => k_asm))))
local macro_rules | `(tactic| walk_at "compareOp NotIn int ref") => `(tactic| ((with_reducible show wpAny _ _ (compareOp CmpOp.NotIn (Value.int _ _) (Value.ref 57)) _ _ _); k_dflt (refine' notin57 ?F ?X ?_; (case F => k_asm); (case X => k_asm))))
local macro_rules | `(tactic| walk_at "binaryOp LShift int int") => `(tactic| (refine lshift_int_small (by decide) (by decide) (by omega) ?_))
local macro_rules | `(tactic| walk_at "call builtin:_struct.pack") => `(tactic| ((with_reducible show wpAny _ _ (call (Value.builtin _) [Value.str _ _, Value.int _ _]) _ _ _); k_dflt (first | (refine' pack_B ?h0 ?h1 ?_; (case h0 => omega); (case h1 => omega)) | (refine' pack_q ?h0 ?h1 ?_; (case h0 => omega); (case h1 => omega))); intro t'))
local macro_rules | `(tactic| ktr_rel) => `(tactic| exact back_led (by assumption) (by assumption) (by assumption) (by assumption) (by assumption) (fun p hp => .inr hp))
local macro_rules | `(tactic| ktr_unf) => `(tactic| first | omega | ((try dsimp only [Around.deeper, Around.in1, Around.mark]); (try simp only [dU, uU]); (try dsimp only [ktrTop, Around.deeper, Around.in1, Around.mark]); omega))
local macro_rules | `(tactic| k_enter) => `(tactic| (ktr_enter; intro g' L' h' kg' lL' FG' F' N' B' X' T'; (try dsimp only); (try k_fold)))
local macro_rules | `(tactic| walk_at "call ref") => `(tactic| (k_here; k_dflt (refine' call_clsK ?k1 ?k2 ?k3 ?k4 ?k5 ?k6 ?_; (case k1 => k_asm); (case k2 => k_asm); (case k3 => k_asm); (case k4 => k_is); (case k5 => k_is); (case k6 => k_is); k_whole; intro x' d' h' x1 l1 l2 F' N'; (try ((have l9 := news_lt (by assumption) l1); (k_lt l9))); (try k_lt2 l1); (try k_lt2 l2); (try k_sweep); k_enter)))

theorem fm_bnd (a : Int) {n : Int} (hn : 0 < n) : 0 ≤ a.fmod n ∧ a.fmod n < n := ⟨Int.fmod_nonneg_of_pos a hn, Int.fmod_lt_of_pos a hn⟩
theorem w7 (a : Int) : 1 ≤ 1 + a.fmod 7 ∧ 1 + a.fmod 7 ≤ 7 := by have := fm_bnd a (n := 7) (by decide); omega
theorem w6 (a : Int) : 1 ≤ 1 + a.fmod 6 ∧ 1 + a.fmod 6 ≤ 7 := by have := fm_bnd a (n := 6) (by decide); omega
theorem numB (a : Int) {k : Nat} (h1 : 1 ≤ k) (h2 : k ≤ 7) : 1 ≤ 1 + a.fmod (256 ^ k - 1) ∧ 1 + a.fmod (256 ^ k - 1) < 2 ^ 56 := by
  have p1 : (256 : Nat) ^ 1 ≤ 256 ^ k := Nat.pow_le_pow_right (by decide) h1
  have p2 : (256 : Nat) ^ k ≤ 256 ^ 7 := Nat.pow_le_pow_right (by decide) h2
  have q1 : (256 : Int) ^ k = ((256 ^ k : Nat) : Int) := by simp
  have := fm_bnd a (n := 256 ^ k - 1) (by rw [q1]; omega)
  rw [q1] at this ⊢
  omega
section
variable {w : World} {A₀ : Around} {s : Shared} {base h₀ : Heap} {outer : List Env} {L : Addr} {m : Str → Option Value} {mean : ExcName → Option Value} {mg mb : Str → Option Value}
  {Q E : Value → Shared → Prop} {dp un : Nat} {gd : Option (List Code)} {cn : Str} {cs : Scope} {a : Addr} {ccd : Value} {cl : List (Str × Addr)}

theorem number_b {n width : Int} {t u : Tok} (B : Below A₀ base outer h₀) (F : Fr h₀ L s.heap m) (X : (hd.heap_39 w.params).In h₀) (T : Top hd.view_39 LO mean mg mb h₀)
   (hke : cs.kind = .function) (hdp : dp + 10 < 1000) (hun : un + 100 < 9900) (hw1 : 1 ≤ width) (hw2 : width ≤ 7)
   (hQ : ∀ v h' t' tk', 1 ≤ v → v < 2 ^ 56 → Back h₀ L m [] s.heap h' → Q (.int v t') { s with heap := h', toks := tk' }) :
   wpAny (model PySem.Challenge.rw_eh5030_01.row.prog w) (ktrTop dp un gd cn cs L a ccd cl outer) (call (.ref 273) [.int n t, .int width u] []) Q E s := by
  refine number_ok B F X T hke hdp hun hw1 hw2 fun h' t' tk' K => ?_
  have h := numB (n * 11400714819323198485) (k := width.toNat) (by omega) (by omega)
  exact hQ _ h' t' tk' h.1 h.2 K
end
section
variable {prog : Program} {w : World} {A : Around} {E Q : Value → Shared → Prop} {s : Shared} {h₀ : Heap} {L T : Addr} {news : List (Addr × Obj)} {u ta tb : Tok} {slice : Expr} {x : Str} {p : Pos}
theorem tupI {its : Array Value} {k : Int} {j : Nat} {v : Value} (N : News h₀ L s.heap news) (hm : (T, ({ cls := .type "tuple", data := .seq its } : Obj)) ∈ news) (hk : k = (j : Int)) (hj : j < 100) (hx : its[j]? = some v) (hs : ∀ (k : Int) (u : Tok), subscripted slice false (.ref T) (.int k u) = operate [.ref T, .int k u] (getItem (.ref T) (.int k u))) (h : Q v s) :
    wpAny (model prog w) A (subscriptTail (.Name x p) slice (.ref T) (.int k u)) Q E s := by
  subst hk
  have hlt : j < its.size := (Array.getElem?_eq_some_iff.mp hx).1
  refine item_tuple ⟨_, (N _ hm).1, rfl, _, rfl⟩ (by omega) (by omega) (j := j) ?_ hx h (hs _ _)
  unfold seqIndex?
  have h1 : ¬ ((j : Int) < 0) := by omega
  simp [h1, hlt]
theorem tup5 {a b k : Int} (N : News h₀ L s.heap news) (hm : (T, ({ cls := .type "tuple", data := .seq #[.none, .none, .none, .int a ta, .int b tb] } : Obj)) ∈ news) (ha : e8 a = true) (hb : e8 b = true) (hs : ∀ (k : Int) (u : Tok), subscripted slice false (.ref T) (.int k u) = operate [.ref T, .int k u] (getItem (.ref T) (.int k u)))
    (h : ∀ lo t, (∀ x, lo = some x → e8 x = true) → Q (vO lo t) s) : wpAny (model prog w) A (subscriptTail (.Name x p) slice (.ref T) (.int (k.fmod 5) u)) Q E s := by
  have hb5 := fm_bnd k (n := 5) (by decide)
  have hc : k.fmod 5 = ((0 : Nat) : Int) ∨ k.fmod 5 = ((1 : Nat) : Int) ∨ k.fmod 5 = ((2 : Nat) : Int) ∨ k.fmod 5 = ((3 : Nat) : Int) ∨ k.fmod 5 = ((4 : Nat) : Int) := by omega
  rcases hc with e | e | e | e | e
  · exact tupI N hm e (by decide) rfl hs (h none 0 fun x hx => by cases hx)
  · exact tupI N hm e (by decide) rfl hs (h none 0 fun x hx => by cases hx)
  · exact tupI N hm e (by decide) rfl hs (h none 0 fun x hx => by cases hx)
  · exact tupI N hm e (by decide) rfl hs (h (some a) ta fun x hx => by cases hx; exact ha)
  · exact tupI N hm e (by decide) rfl hs (h (some b) tb fun x hx => by cases hx; exact hb)
end
/-- the tuple of offers -/
def OffT (o : Obj) : Prop := ∃ t1 t2 t3 t4 t5 t6 t7 t8 t9 t10 t11 : Tok, o = { cls := .type "tuple", data := .seq #[.none, .int 8 t1, .int 16 t2, .int 24 t3, .int 32 t4, .int 40 t5, .int 48 t6, .int 56 t7, .int 64 t8, .int 12 t9, .int 0 t10, .int 72 t11] }
/-- one location with its cell, as the law makes them -/
structure Pc where
  (l : Lc) (c : Addr) (cn : Nat) (ca cs tl th c1 c2 : Tok)
abbrev pcNews (w : World) (p : Pc) : List (Addr × Obj) := (p.c, listOf (cellOf p.l.ad p.l.sz p.l.low p.l.high p.ca p.cs p.tl p.th p.c1 p.c2).toArray p.cn) :: lcNews w p.l
structure PcOk (p : Pc) : Prop where
  a1 : 1 ≤ p.l.ad
  a2 : p.l.ad < 2 ^ 56
  s1 : 1 ≤ p.l.sz
  s2 : p.l.sz < 2 ^ 56
  lo : ∀ x, p.l.low = some x → e8 x = true
  hi : ∀ x, p.l.high = some x → e8 x = true
  o1 : @LT.lt Nat _ p.l.dloc p.l.loc
  o2 : @LT.lt Nat _ p.l.loc p.l.dal
  o3 : @LT.lt Nat _ p.l.dal p.l.al
  o4 : @LT.lt Nat _ p.l.al p.c
abbrev poolV (ps : List Pc) : Array Value := (ps.map fun p => Value.ref p.l.loc).toArray
abbrev cellsV (ps : List Pc) : Array Value := (ps.map fun p => Value.ref p.c).toArray
/-- what the building loop keeps -/
def MkJ (w : World) (pool cells draws offers : Addr) (base : List (Addr × Obj)) (i : Nat) (m : Str → Option Value) (news : List (Addr × Obj)) : Prop :=
  ∃ (ps : List Pc) (np nc : Nat), ps.length = i ∧ news = (cells, listOf (cellsV ps) nc) :: (pool, listOf (poolV ps) np) :: (ps.flatMap (pcNews w) ++ base) ∧ (∀ p ∈ ps, PcOk p ∧ @LT.lt Nat _ cells p.l.dloc) ∧ ps.Pairwise (fun p q => @LT.lt Nat _ p.c q.l.dloc) ∧
    m (Str.ofString "pool") = some (.ref pool) ∧ m (Str.ofString "cells") = some (.ref cells) ∧ m (Str.ofString "draws") = some (.ref draws) ∧ m (Str.ofString "offers") = some (.ref offers)
theorem pc_gt {w : World} {p : Pc} (h : PcOk p) {q : Addr × Obj} (hq : q ∈ pcNews w p) : @LE.le Nat _ p.l.dloc q.1 ∧ @LE.le Nat _ q.1 p.c := by
  have h1 := h.o1
  have h2 := h.o2
  have h3 := h.o3
  have h4 := h.o4
  simp only [List.mem_cons, List.not_mem_nil, or_false] at hq
  rcases hq with rfl | rfl | rfl | rfl | rfl <;> dsimp only <;> omega
theorem mk_news {w : World} {g h : Heap} {L cells pool : Addr} {own base : List (Addr × Obj)} {ps : List Pc} {p : Pc} {nc np : Nat}
    (N1 : News g L h [(cells, listOf ((cellsV ps).push (.ref p.c)) (nc + 1)), (pool, listOf ((poolV ps).push (.ref p.l.loc)) (np + 1))]) (N2 : News g L h (pcNews w p)) (N3 : News g L h (own ++ (ps.flatMap (pcNews w) ++ base))) :
    News g L h (own ++ ((cells, listOf (cellsV (ps ++ [p])) (nc + 1)) :: (pool, listOf (poolV (ps ++ [p])) (np + 1)) :: ((ps ++ [p]).flatMap (pcNews w) ++ base))) := by
  have e1 : cellsV (ps ++ [p]) = (cellsV ps).push (.ref p.c) := by
    show (List.map _ _).toArray = (List.map _ _).toArray.push _
    rw [List.map_append]; simp
  have e2 : poolV (ps ++ [p]) = (poolV ps).push (.ref p.l.loc) := by
    show (List.map _ _).toArray = (List.map _ _).toArray.push _
    rw [List.map_append]; simp
  intro q hq
  rcases List.mem_append.mp hq with hq | hq
  · exact N3 q (List.mem_append_left _ hq)
  rcases List.mem_cons.mp hq with rfl | hq
  · rw [e1]; exact N1 _ (.head _)
  rcases List.mem_cons.mp hq with rfl | hq
  · rw [e2]; exact N1 _ (.tail _ (.head _))
  rcases List.mem_append.mp hq with hq | hq
  · rw [List.flatMap_append, List.mem_append] at hq
    rcases hq with hq | hq
    · exact N3 q (List.mem_append_right _ (List.mem_append_left _ hq))
    · rw [List.flatMap_cons, List.flatMap_nil, List.append_nil] at hq
      exact N2 q hq
  · exact N3 q (List.mem_append_right _ (List.mem_append_right _ hq))
section
variable {M : Model} {A : Around} {E : Value → Shared → Prop} {s : Shared} {env : Env} {st : Stmt} {rest : List Stmt} {Q : Flow → Shared → Prop} {h₀ : Heap} {L : Addr}
/-- two roads through one statement meet at P -/
theorem joinX (P : Heap → (Str → Option Value) → Prop)
    (h1 : wpAny M A (exec st env) (fun f s' => Stop (f = .next ∧ ∃ h' tk m', s' = { s with heap := h', toks := tk } ∧ Fr h₀ L h' m' ∧ P h' m')) E s)
    (h2 : ∀ h' tk m', Fr h₀ L h' m' → P h' m' → wpAny M A (execs rest env) Q E { s with heap := h', toks := tk }) : wpAny M A (execs (st :: rest) env) Q E s := by
  refine wpAny_execs_cons (wpAny_mono h1 (fun f s' x => ?_) fun _ _ y => y)
  obtain ⟨rfl, h', tk, m', rfl, F', p⟩ := x
  exact h2 h' tk m' F' p
end
/-- the two plans as the law makes them -/
def PlansP (w : World) (g : Heap) (L : Addr) (m0 : Str → Option Value) (l0 : Addr) (keep : List (Addr × Obj)) (h : Heap) (m : Str → Option Value) : Prop :=
  ∃ (x0 dx0 le0 en den x1 dx1 le1 pl : Addr) (n0 n1 npl : Nat) (k0 k1 k2 k3 k4 : Tok), m = (fun y => if y = Str.ofString "plans" then some (.ref pl) else m0 y) ∧
    News g L h ((pl, listOf #[.ref x0, .ref x1] npl) :: (x0, instObj 255 dx0) :: (dx0, dictOf (didEs w k1 k2 le0 (.ref 206)) 2) :: (le0, listOf #[.ref en] n0) :: (en, instObj 206 den) :: (den, dictOf [ent w (Str.ofString "memloc") k0 (.ref l0)] 1) ::
      (x1, instObj 255 dx1) :: (dx1, dictOf (didEs w k3 k4 le1 (vD false)) 2) :: (le1, listOf #[] n1) :: keep) ∧ (∀ p ∈ keep, @LT.lt Nat _ p.1 dx0) ∧ @LT.lt Nat _ dx0 x0 ∧ @LT.lt Nat _ x0 le0 ∧ @LT.lt Nat _ le0 den ∧ @LT.lt Nat _ den en ∧ @LT.lt Nat _ en dx1 ∧ @LT.lt Nat _ dx1 x1 ∧ @LT.lt Nat _ x1 le1 ∧ @LT.lt Nat _ le1 pl
end Mine
namespace Mine
open PySem PySem.Calls PySem.Spec
section
variable {prog : Program} {w : World} {A : Around} {E : Value → Shared → Prop} {s : Shared} {g : Heap} {env : Env} {x : Str} {body : List Stmt} {Q : Flow → Shared → Prop} {m : Str → Option Value} {news : List (Addr × Obj)} {le : Addr} {its : Array Value} {n : Nat}
/-- a loop over a list of the ledger that may turn other objects of the ledger -/
theorem forListL {L : Addr} (hL : env.locals = L) (F : Fr g L s.heap m) (N : News g L s.heap news) (hle : (le, listOf its n) ∈ news) (hh : A.handled = none)
    (J : Nat → (Str → Option Value) → List (Addr × Obj) → Prop) (h0 : J 0 m news)
    (step : ∀ (i : Nat) (v : Value) (m₁ : Str → Option Value) (news₁ : List (Addr × Obj)) (h : Heap) (tk : Nat) (own : List (Addr × Obj)), i < its.size → its[i]? = some v → J i m₁ news₁ → OffZ s.heap.objs.size 1 news₁ → @LT.lt Nat _ s.heap.objs.size h.objs.size → (∀ p ∈ own, p.1 = s.heap.objs.size ∨ p = (le, listOf its n)) → (∃ oI, (s.heap.objs.size, oI) ∈ own) →
      Fr g L h (fun y => if y = x then some v else m₁ y) → News g L h (own ++ news₁) →
      wpAny (model prog w) A (execs body env) (TurnL g L own s.heap.objs.size 1 (J (i + 1)) s Q) E { s with heap := h, toks := tk })
    (keepL : ∀ i m₁ news₁, J i m₁ news₁ → (le, listOf its n) ∈ news₁)
    (done : ∀ (h : Heap) (tk : Nat) (m' : Str → Option Value) (news' : List (Addr × Obj)), Fr g L h m' → News g L h news' → J its.size m' news' → Q .next { s with heap := h, toks := tk }) :
    wpAny (model prog w) A (pyIter (.ref le)) (fun it s₂ => LoopAtV prog w A g env x body Q E it s₂) E s := by
  subst hL
  have hl : s.heap.IsList le its := N.isList hle
  have hlt : ∀ p ∈ news, @LT.lt Nat _ p.1 s.heap.objs.size := fun p hp => Heap.lt_size (N p hp).1
  have hne : le ≠ s.heap.objs.size := Nat.ne_of_lt (hlt _ hle)
  have hg : g.get? s.heap.objs.size = none := by
    cases q : g.get? s.heap.objs.size with
    | none => rfl
    | some o => exact absurd (Heap.lt_size (F.keep _ _ q)) (Nat.lt_irrefl _)
  have hLlt : env.locals < s.heap.objs.size := F.ns.lt
  have offwr : ∀ {nw : List (Addr × Obj)}, OffZ s.heap.objs.size 1 nw → ∀ p ∈ nw, p.1 ∉ [s.heap.objs.size] := fun {nw} ho p hp hm => by
    have := ho p hp
    rw [List.mem_singleton.mp hm] at this
    omega
  refine wpAny_pyIter_list hl ?_
  refine ⟨s.heap.objs.size, _, _, _, _, _, m, news, fun i m₁ news₁ => OffZ s.heap.objs.size 1 news₁ ∧ J i m₁ news₁, rfl, Walks.list hh _ le hne its, ?_, ?_, offwr (fun p hp => .inl (hlt p hp)), ⟨?_, ?_⟩, F.push _, News.pushKeep N _, ⟨fun p hp => .inl (hlt p hp), h0⟩, ?_, ?_⟩
  · intro hm
    rcases List.mem_cons.mp hm with q | hm
    · exact absurd q (Nat.ne_of_lt hLlt)
    · exact (N _ hle).2.1 (List.mem_singleton.mp hm).symm
  · intro b hb
    rw [List.mem_singleton.mp hb]; exact hg
  · exact ⟨_, Heap.get?_push_size _ rfl, rfl, rfl⟩
  · obtain ⟨o, ho, r⟩ := hl
    exact ⟨o, Heap.get?_push_of_some _ ho, r⟩
  · rintro i v m₁ news₁ s₁ own ⟨h, tk, rfl⟩ hi hP ⟨ho, hJ⟩ _ hown hget hall hst F₁ N₁
    obtain ⟨⟨_, hI1, _⟩, _⟩ := id hst
    have hIs : @LT.lt Nat _ s.heap.objs.size h.objs.size := Heap.lt_size hI1
    refine wpAny_mono (step i v m₁ news₁ h tk own hi hP hJ ho hIs (fun p hp => ?_) ⟨_, hall _ (.head _) hg _ hI1⟩ F₁ N₁) (fun f s₂ h₂ => ?_) fun _ _ e => e
    · obtain ⟨pa, po⟩ := p
      rcases List.mem_cons.mp (hown _ hp) with e | e
      · exact .inl e
      · right
        obtain rfl : pa = le := List.mem_singleton.mp e
        have h1 := (N₁ _ (List.mem_append_right _ (keepL _ _ _ hJ))).1
        rw [show h.get? pa = some po from hget _ hp] at h1
        cases h1; rfl
    · cases f with
      | ret v => exact h₂
      | brk => exact h₂
      | next =>
        obtain ⟨_, h', tk', m₂, news₂, rfl, F₂, N₂, ho₂, hJ₂⟩ := h₂
        exact ⟨rfl, h', tk', m₂, news₂, rfl, F₂, N₂, offwr ho₂, ho₂, hJ₂⟩
      | cont =>
        obtain ⟨_, h', tk', m₂, news₂, rfl, F₂, N₂, ho₂, hJ₂⟩ := h₂
        exact ⟨rfl, h', tk', m₂, news₂, rfl, F₂, N₂, offwr ho₂, ho₂, hJ₂⟩
  · rintro h' tk m' news' F' N' _ ⟨_, hJ⟩
    exact done h' tk m' news' F' N' hJ
end
end Mine
namespace Mine
open PySem PySem.Calls PySem.Spec
theorem inst_ne_inst {c d c' d' : Addr} (h : c ≠ c') : instObj c d ≠ instObj c' d' := fun e => by
  have h1 : Value.ref c = Value.ref c' := congrArg Obj.cls e
  cases h1; exact h rfl
/-- the numbers' bounds -/
structure FxB (f : Fx) : Prop where
  a1 : ∀ j, 1 ≤ f.ad j
  a2 : ∀ j, f.ad j < 2 ^ 56
  s1 : ∀ j, 1 ≤ f.sz j
  s2 : ∀ j, f.sz j < 2 ^ 56
/-- the rest of the ledger keeps off the places that turn -/
def ROffL (f : Fx) (R : List (Addr × Obj)) : Prop := ∀ p ∈ R, ∀ j, p.1 ≠ f.dloc j ∧ p.1 ≠ f.c j
def ROff (f : Fx) (R : List (Addr × Obj)) : Prop := ROffL f R ∧ ∀ p ∈ R, ∀ d, p.1 ≠ f.dx d ∧ p.1 ≠ f.le d ∧ p.1 ≠ f.pk d
theorem rest_keep {h₀ h h' : Heap} {L : Addr} {m : Str → Option Value} {ms : List Addr} {a R : List (Addr × Obj)} (K : Back h₀ L m ms h h') (N : News h₀ L h (a ++ R)) (hR : ∀ p ∈ R, p.1 ∉ ms) : News h₀ L h' R := K.news (news_sub N fun _ hp => List.mem_append_right _ hp) hR
theorem fst_app {h₀ h : Heap} {L : Addr} {a R : List (Addr × Obj)} (N : News h₀ L h (a ++ R)) : News h₀ L h a := news_sub N fun _ hp => List.mem_append_left _ hp
theorem inv_tell {f : Fx} {v : Sv} {j : Fin 3} {l : Lv} {c : Cv} {a₁ m₁ : Option Int} (I : Inv f v) (Bd : FxB f) (h1 : l.low = (v.lv j).low.or a₁) (h2 : l.high = (v.lv j).high.or m₁) (h3 : c.low = (v.cv j).low.or a₁) (h4 : c.high = (v.cv j).high.or m₁)
    (o1 : okO ((v.lv j).low.or a₁) = true) (o2 : okO ((v.lv j).high.or m₁) = true) : Inv f (setC (setL v j l) j c) := by
  have e1 : ∀ i, i = j → (setC (setL v j l) j c).lv i = l := fun i h => if_pos h
  have e2 : ∀ i, i = j → (setC (setL v j l) j c).cv i = c := fun i h => if_pos h
  have e3 : ∀ i, i ≠ j → (setC (setL v j l) j c).lv i = v.lv i := fun i h => if_neg h
  have e4 : ∀ i, i ≠ j → (setC (setL v j l) j c).cv i = v.cv i := fun i h => if_neg h
  refine ⟨fun i => ?_, fun i => ?_, fun i => ?_, I.picks, I.small⟩
  · by_cases h : i = j
    · have hi := I.ok i
      refine ⟨hi.ha1, hi.ha2, hi.hs1, hi.hs2, ?_, ?_⟩
      · show e8 (fA ((setC (setL v j l) j c).lv i).low (f.ad i)) = true
        rw [e1 i h, h1, okO_fA (Bd.a1 i) (Bd.a2 i)]; exact o1
      · show e8 (fA ((setC (setL v j l) j c).lv i).high (f.sz i)) = true
        rw [e1 i h, h2, okO_fA (Bd.s1 i) (Bd.s2 i)]; exact o2
    · have hi := I.ok i
      refine ⟨hi.ha1, hi.ha2, hi.hs1, hi.hs2, ?_, ?_⟩
      · show e8 (fA ((setC (setL v j l) j c).lv i).low (f.ad i)) = true
        rw [e3 i h]; exact hi.hf
      · show e8 (fA ((setC (setL v j l) j c).lv i).high (f.sz i)) = true
        rw [e3 i h]; exact hi.hg
  · by_cases h : i = j
    · rw [e1 i h, e2 i h, h1, h3, I.low j]
    · rw [e3 i h, e4 i h]; exact I.low i
  · by_cases h : i = j
    · rw [e1 i h, e2 i h, h2, h4, I.high j]
    · rw [e3 i h, e4 i h]; exact I.high i
theorem inv_add {f : Fx} {v : Sv} {d : Fin 2} {p : Pv} {k : Kv} {e : Ev} {t : Tok} (I : Inv f v) (hp : p.es = (v.pv d).es ++ [e]) (hk : k.is = (v.kv d).is ++ [(e.i, t)]) (hsm : (v.pv d).es.length + 1 < 1000) : Inv f (setK (setP v d p) d k) := by
  refine ⟨I.ok, I.low, I.high, fun b => ?_, fun b => ?_⟩
  · by_cases h : b = d
    · have e1 : (setK (setP v d p) d k).pv b = p := if_pos h
      have e2 : (setK (setP v d p) d k).kv b = k := if_pos h
      rw [e1, e2, hp, hk, List.map_append, List.map_append, I.picks d]; rfl
    · have e1 : (setK (setP v d p) d k).pv b = v.pv b := if_neg h
      have e2 : (setK (setP v d p) d k).kv b = v.kv b := if_neg h
      rw [e1, e2]; exact I.picks b
  · by_cases h : b = d
    · have e1 : (setK (setP v d p) d k).pv b = p := if_pos h
      rw [e1, hp, List.length_append]; exact hsm
    · have e1 : (setK (setP v d p) d k).pv b = v.pv b := if_neg h
      rw [e1]; exact I.small b
/-- the ledger reaches beyond z + k -/
def Mark (z k : Nat) (R : List (Addr × Obj)) : Prop := ∃ p ∈ R, @LE.le Nat _ (z + k) (p.1 + 1)
/-- what keeps off the marked places before keeps off behind -/
def Off (w : World) (f : Fx) (R : List (Addr × Obj)) (v v' : Sv) : Prop := ∀ z k, Mark z k R → OffZ z k (Wd w f v) → OffZ z k (Wd w f v')
theorem Off.refl {w : World} {f : Fx} {R : List (Addr × Obj)} {v : Sv} : Off w f R v v := fun _ _ _ h => h
theorem Off.trans {w : World} {f : Fx} {R : List (Addr × Obj)} {v v' v'' : Sv} (a : Off w f R v v') (b : Off w f R v' v'') : Off w f R v v'' := fun z k m h => b z k m (a z k m h)
theorem Off.sub {w : World} {f : Fx} {R R' : List (Addr × Obj)} {v v' : Sv} (a : Off w f R' v v') (h : ∀ p ∈ R, p ∈ R') : Off w f R v v' := fun z k ⟨p, hp, m⟩ => a z k ⟨p, h p hp, m⟩
theorem off_of {w : World} {f : Fx} {R : List (Addr × Obj)} {v v' : Sv} {h₀ h : Heap} {L : Addr} (N : News h₀ L h (Wd w f v ++ R)) (hg : ∀ p ∈ Wd w f v', @LE.le Nat _ h.objs.size p.1 ∨ ∃ q ∈ Wd w f v, q.1 = p.1) : Off w f R v v' := fun z k ⟨r, hr, m⟩ ho p hp => by
  rcases hg p hp with h1 | ⟨q, hq, e⟩
  · right
    have h2 : @LT.lt Nat _ r.1 h.objs.size := Heap.lt_size (N r (List.mem_append_right _ hr)).1
    omega
  · rw [← e]; exact ho q hq
theorem off_app {z k : Nat} {a b : List (Addr × Obj)} (x : OffZ z k a) (y : OffZ z k b) : OffZ z k (a ++ b) := fun p hp => (List.mem_append.mp hp).elim (x p) (y p)
theorem off_setL {w : World} {f : Fx} {R : List (Addr × Obj)} {v : Sv} {j : Fin 3} {l : Lv} {h₀ h : Heap} {L : Addr} (N : News h₀ L h (Wd w f v ++ R)) (h1 : @LE.le Nat _ h.objs.size l.dal) (h2 : @LT.lt Nat _ l.dal l.al) : Off w f R v (setL v j l) := by
  refine off_of N fun p hp => ?_
  rcases mem_Wd.mp hp with hp | ⟨i, rfl⟩ | ⟨d, rfl⟩ | ⟨i, hp⟩ | ⟨d, hp⟩ | ⟨d, e, he, hp⟩
  · exact .inr ⟨p, wd_top p hp, rfl⟩
  · exact .inr ⟨_, wd_cell (v := v) i, rfl⟩
  · exact .inr ⟨_, wd_pick (v := v) d, rfl⟩
  · by_cases hij : i = j
    · have e1 : (setL v j l).lv i = l := if_pos hij
      have e2 : lcOf f (setL v j l) i = ⟨f.loc i, f.dloc i, l.al, l.dal, f.ad i, f.sz i, l.low, l.high, f.t0 i, f.t1 i, f.t2 i, f.t3 i, f.t4 i, f.ta i, f.ts i, l.tl, l.th, l.t5, l.t6, l.u, l.v⟩ := by unfold lcOf; rw [e1]
      rw [e2] at hp
      simp only [List.mem_cons, List.not_mem_nil, or_false] at hp
      rcases hp with rfl | rfl | rfl | rfl
      · exact .inr ⟨_, wd_lc (v := v) i _ (.head _), rfl⟩
      · exact .inr ⟨_, wd_lc (v := v) i _ (.tail _ (.head _)), rfl⟩
      · exact .inl (Nat.le_of_lt (Nat.lt_of_le_of_lt h1 h2))
      · exact .inl h1
    · have e1 : (setL v j l).lv i = v.lv i := if_neg hij
      have hp' : p ∈ lcNews w (lcOf f v i) := by
        rw [show lcOf f (setL v j l) i = lcOf f v i by unfold lcOf; rw [e1]] at hp
        exact hp
      exact .inr ⟨p, wd_lc i p hp', rfl⟩
  · simp only [List.mem_cons, List.not_mem_nil, or_false] at hp
    rcases hp with rfl | rfl | rfl
    · exact .inr ⟨_, wd_plan (v := v) d _ (.head _), rfl⟩
    · exact .inr ⟨_, wd_plan (v := v) d _ (.tail _ (.head _)), rfl⟩
    · exact .inr ⟨_, wd_plan (v := v) d _ (.tail _ (.tail _ (.head _))), rfl⟩
  · have he' : e ∈ (v.pv d).es := he
    exact .inr ⟨p, wd_ev he' p hp, rfl⟩
theorem off_setC {w : World} {f : Fx} {R : List (Addr × Obj)} {v : Sv} {j : Fin 3} {c : Cv} {h₀ h : Heap} {L : Addr} (N : News h₀ L h (Wd w f v ++ R)) : Off w f R v (setC v j c) := by
  refine off_of N fun p hp => .inr ?_
  rcases mem_Wd.mp hp with hp | ⟨i, rfl⟩ | ⟨d, rfl⟩ | ⟨i, hp⟩ | ⟨d, hp⟩ | ⟨d, e, he, hp⟩
  · exact ⟨p, wd_top p hp, rfl⟩
  · exact ⟨_, wd_cell (v := v) i, rfl⟩
  · exact ⟨_, wd_pick (v := v) d, rfl⟩
  · exact ⟨p, wd_lc (v := v) i p hp, rfl⟩
  · exact ⟨p, wd_plan (v := v) d p hp, rfl⟩
  · have he' : e ∈ (v.pv d).es := he
    exact ⟨p, wd_ev he' p hp, rfl⟩
theorem off_setK {w : World} {f : Fx} {R : List (Addr × Obj)} {v : Sv} {d : Fin 2} {k : Kv} {h₀ h : Heap} {L : Addr} (N : News h₀ L h (Wd w f v ++ R)) : Off w f R v (setK v d k) := by
  refine off_of N fun p hp => .inr ?_
  rcases mem_Wd.mp hp with hp | ⟨i, rfl⟩ | ⟨d, rfl⟩ | ⟨i, hp⟩ | ⟨d, hp⟩ | ⟨d, e, he, hp⟩
  · exact ⟨p, wd_top p hp, rfl⟩
  · exact ⟨_, wd_cell (v := v) i, rfl⟩
  · exact ⟨_, wd_pick (v := v) d, rfl⟩
  · exact ⟨p, wd_lc (v := v) i p hp, rfl⟩
  · exact ⟨p, wd_plan (v := v) d p hp, rfl⟩
  · have he' : e ∈ (v.pv d).es := he
    exact ⟨p, wd_ev he' p hp, rfl⟩
theorem off_setP {w : World} {f : Fx} {R : List (Addr × Obj)} {v : Sv} {d : Fin 2} {p : Pv} {e : Ev} {h₀ h : Heap} {L : Addr} (N : News h₀ L h (Wd w f v ++ R)) (hp : p.es = (v.pv d).es ++ [e]) (h1 : @LE.le Nat _ h.objs.size e.den) (h2 : @LT.lt Nat _ e.den e.en) : Off w f R v (setP v d p) := by
  refine off_of N fun q hq => ?_
  rcases mem_Wd.mp hq with hq | ⟨i, rfl⟩ | ⟨b, rfl⟩ | ⟨i, hq⟩ | ⟨b, hq⟩ | ⟨b, z, hz, hq⟩
  · exact .inr ⟨q, wd_top q hq, rfl⟩
  · exact .inr ⟨_, wd_cell (v := v) i, rfl⟩
  · exact .inr ⟨_, wd_pick (v := v) b, rfl⟩
  · exact .inr ⟨q, wd_lc (v := v) i q hq, rfl⟩
  · simp only [List.mem_cons, List.not_mem_nil, or_false] at hq
    rcases hq with rfl | rfl | rfl
    · exact .inr ⟨_, wd_plan (v := v) b _ (.head _), rfl⟩
    · exact .inr ⟨_, wd_plan (v := v) b _ (.tail _ (.head _)), rfl⟩
    · exact .inr ⟨_, wd_plan (v := v) b _ (.tail _ (.tail _ (.head _))), rfl⟩
  · by_cases hold : z ∈ (v.pv b).es
    · exact .inr ⟨q, wd_ev hold q hq, rfl⟩
    · obtain rfl : z = e := by
        by_cases hb : b = d
        · have e1 : (setP v d p).pv b = p := if_pos hb
          rw [e1, hp, ← hb] at hz
          rcases List.mem_append.mp hz with hz | hz
          · exact absurd hz hold
          · exact List.mem_singleton.mp hz
        · have e1 : (setP v d p).pv b = v.pv b := if_neg hb
          rw [e1] at hz
          exact absurd hz hold
      simp only [List.mem_cons, List.not_mem_nil, or_false] at hq
      rcases hq with rfl | rfl
      · exact .inl (Nat.le_of_lt (Nat.lt_of_le_of_lt h1 h2))
      · exact .inl h1
section
variable {w : World} {A₀ : Around} {s : Shared} {base h₀ : Heap} {L : Addr} {m : Str → Option Value} {mean : ExcName → Option Value} {mg mb : Str → Option Value}
  {Q E : Value → Shared → Prop} {dp un : Nat} {cn : Str} {cs : Scope} {a : Addr} {ccd : Value}
theorem asked_wd {f : Fx} {v : Sv} {R : List (Addr × Obj)} {j : Fin 3} {how : Int} {a₁ m₁ : Option Int} {p q r : Tok} (B : Below A₀ base [] h₀) (F : Fr h₀ L s.heap m) (X : (hd.heap_39 w.params).In h₀) (T : Top hd.view_39 LO mean mg mb h₀) (XTB : BaseOk w mean mg mb base)
   (hke : cs.kind = .function) (hdp : dp + 50 < 1000) (hun : un + 500 < 9900) (O : FxOk f) (Bd : FxB f) (N : News h₀ L s.heap (Wd w f v ++ R)) (hR : ROffL f R)
   (hQ : okO ((v.lv j).low.or a₁) = true → okO ((v.lv j).high.or m₁) = true → ∀ (l : Lv) (h' : Heap) (tk' : Nat), l.low = (v.lv j).low.or a₁ → l.high = (v.lv j).high.or m₁ → Fr h₀ L h' m → News h₀ L h' (Wd w f (setL v j l) ++ R) → Off w f R v (setL v j l) → Q (.bool true) { s with heap := h', toks := tk' })
   (hE : ¬ (okO ((v.lv j).low.or a₁) = true ∧ okO ((v.lv j).high.or m₁) = true) → ∀ (h' : Heap) (tk' : Nat), Fr h₀ L h' m → News h₀ L h' (Wd w f v ++ R) → Q (.bool false) { s with heap := h', toks := tk' }) :
   wpAny (model PySem.Challenge.rw_eh5030_01.row.prog w) (ktrTop dp un (some []) cn cs L a ccd [] []) (call (.ref 294) [.ref (f.loc j), vO a₁ p, vO m₁ q, .int how r] []) Q E s := by
  have NW := fst_app N
  refine asked_ok B F X T XTB hke hdp hun (apart_of NW (wd_lc j _ (.tail _ (.head _))) (wd_lc j _ (.head _)) (Ne.symm inst_ne_dict)) (news2 NW (wd_lc j _ (.head _)) (wd_lc j _ (.tail _ (.head _)))) (Bd.a1 j) (Bd.a2 j) (Bd.s1 j) (Bd.s2 j) ?_ ?_
  · intro e1 e2 al dal k0 k1 k2 k3 k4 k5 h' tk' K r1 r2 NN
    have E1 : (setL v j ⟨al, dal, (v.lv j).low.or a₁, (v.lv j).high.or m₁, k4, k5, k0, k1, k2, k3⟩).lv j = ⟨al, dal, (v.lv j).low.or a₁, (v.lv j).high.or m₁, k4, k5, k0, k1, k2, k3⟩ := if_pos rfl
    refine hQ (by rw [← okO_fA (Bd.a1 j) (Bd.a2 j)]; exact e1) (by rw [← okO_fA (Bd.s1 j) (Bd.s2 j)]; exact e2) ⟨al, dal, (v.lv j).low.or a₁, (v.lv j).high.or m₁, k4, k5, k0, k1, k2, k3⟩ h' tk' rfl rfl K.fr (news_app (upd_lv O NW K ?_) (rest_keep K N fun p hp => ?_)) (off_setL N r1 r2)
    · have e9 : lcOf f (setL v j ⟨al, dal, (v.lv j).low.or a₁, (v.lv j).high.or m₁, k4, k5, k0, k1, k2, k3⟩) j = ⟨f.loc j, f.dloc j, al, dal, f.ad j, f.sz j, (v.lv j).low.or a₁, (v.lv j).high.or m₁, f.t0 j, f.t1 j, f.t2 j, f.t3 j, f.t4 j, f.ta j, f.ts j, k4, k5, k0, k1, k2, k3⟩ := by
        unfold lcOf; rw [E1]
      rw [e9]
      exact List.forall_mem_cons.mpr ⟨NN _ (.tail _ (.tail _ (.head _))), List.forall_mem_cons.mpr ⟨NN _ (.tail _ (.tail _ (.tail _ (.head _)))), List.forall_mem_cons.mpr ⟨NN _ (.head _), List.forall_mem_cons.mpr ⟨NN _ (.tail _ (.head _)), List.forall_mem_nil _⟩⟩⟩⟩
    · rw [List.mem_singleton]; exact (hR p hp j).1
  · intro hb h' tk' K
    refine hE (fun z => hb ⟨?_, ?_⟩) h' tk' K.fr (K.news0 N)
    · rw [okO_fA (Bd.a1 j) (Bd.a2 j)]; exact z.1
    · rw [okO_fA (Bd.s1 j) (Bd.s2 j)]; exact z.2
theorem tell_wd {f : Fx} {v : Sv} {R : List (Addr × Obj)} {j : Fin 3} {a₁ m₁ : Option Int} {p q : Tok} (B : Below A₀ base [] h₀) (F : Fr h₀ L s.heap m) (X : (hd.heap_39 w.params).In h₀) (T : Top hd.view_39 LO mean mg mb h₀)
   (hke : cs.kind = .function) (hdp : dp + 50 < 1000) (hun : un + 500 < 9900) (O : FxOk f) (N : News h₀ L s.heap (Wd w f v ++ R)) (hR : ROffL f R)
   (hQ : okO ((v.cv j).low.or a₁) = true → okO ((v.cv j).high.or m₁) = true → ∀ (c : Cv) (h' : Heap) (tk' : Nat), c.low = (v.cv j).low.or a₁ → c.high = (v.cv j).high.or m₁ → Fr h₀ L h' m → News h₀ L h' (Wd w f (setC v j c) ++ R) → Off w f R v (setC v j c) → Q (.bool true) { s with heap := h', toks := tk' })
   (hE : ¬ (okO ((v.cv j).low.or a₁) = true ∧ okO ((v.cv j).high.or m₁) = true) → ∀ (h' : Heap) (tk' : Nat), Fr h₀ L h' m → News h₀ L h' (Wd w f v ++ R) → Q (.bool false) { s with heap := h', toks := tk' }) :
   wpAny (model PySem.Challenge.rw_eh5030_01.row.prog w) (ktrTop dp un (some []) cn cs L a ccd [] []) (call (.ref 287) [.ref (f.c j), vO a₁ p, vO m₁ q] []) Q E s := by
  have NW := fst_app N
  refine tell_ok B F X T hke (by omega) (by omega) (news1 NW (wd_cell j)) ?_ ?_
  · intro e1 e2 k1 k2 h' tk' K NN
    have E1 : (setC v j ⟨(v.cv j).low.or a₁, (v.cv j).high.or m₁, k1, k2⟩).cv j = ⟨(v.cv j).low.or a₁, (v.cv j).high.or m₁, k1, k2⟩ := if_pos rfl
    refine hQ e1 e2 ⟨(v.cv j).low.or a₁, (v.cv j).high.or m₁, k1, k2⟩ h' tk' rfl rfl K.fr (news_app (upd_cv O NW K ?_) (rest_keep K N fun p hp => ?_)) (off_setC N)
    · unfold cellN; rw [E1]; exact NN
    · rw [List.mem_singleton]; exact (hR p hp j).2
  · intro hb h' tk' K
    exact hE hb h' tk' K.fr (K.news0 N)
/-- the three facts behind add -/
theorem add_wd {f : Fx} {v : Sv} {R : List (Addr × Obj)} {d : Fin 2} {j : Fin 3} {R' : Value → Shared → Prop} (O : FxOk f) (N : News h₀ L s.heap (Wd w f v ++ R)) (hR : ROff f R)
   (hQ : ∀ (e : Ev) (p : Pv) (h' : Heap) (tk' : Nat), p.es = (v.pv d).es ++ [e] → e.i = j → Fr h₀ L h' m → News h₀ L h' (Wd w f (setP v d p) ++ R) → Off w f R v (setP v d p) → R' .none { s with heap := h', toks := tk' }) :
   ∀ (en den : Addr) (k0 k1 k2 : Tok) (h' : Heap) (tk' : Nat), Back h₀ L m [f.dx d, f.le d] s.heap h' → s.heap.objs.size ≤ den → den < en → News h₀ L h' [(en, instObj 206 den), (den, dictOf [ent w (Str.ofString "memloc") k0 (.ref (f.loc j))] 1), (f.x d, instObj 255 (f.dx d)), (f.dx d, dictOf (didEs w k1 k2 (f.le d) (.ref 206)) 2), (f.le d, listOf ((itsOf (ensOf f v d)).push (.ref en)) ((v.pv d).n + 1))] → R' .none { s with heap := h', toks := tk' } := by
  have NW := fst_app N
  intro en den k0 k1 k2 h' tk' K r1 r2 NN
  have U := upd_pv (i := j) O NW K NN
  have V : News h₀ L h' R := rest_keep K N fun p hp => by
    have h1 := hR.2 p hp d
    simp only [List.mem_cons, List.not_mem_nil, or_false, not_or]
    exact ⟨h1.1, h1.2.1⟩
  generalize hp : (⟨(v.pv d).n + 1, k1, k2, (v.pv d).es ++ [⟨en, den, k0, j⟩]⟩ : Pv) = pp at U
  exact hQ ⟨en, den, k0, j⟩ pp h' tk' (by rw [← hp]) rfl K.fr (news_app U V) (off_setP N (by rw [← hp]) r1 r2)
theorem addp_wd {f : Fx} {v : Sv} {R : List (Addr × Obj)} {d : Fin 2} {j : Fin 3} (B : Below A₀ base [] h₀) (F : Fr h₀ L s.heap m) (X : (hd.heap_39 w.params).In h₀) (T : Top hd.view_39 LO mean mg mb h₀)
   (hke : cs.kind = .function) (hdp : dp + 50 < 1000) (hun : un + 500 < 9900) (O : FxOk f) (N : News h₀ L s.heap (Wd w f v ++ R)) (hR : ROff f R) (hsz : (v.pv d).es.length < 1000)
   (hQ : ∀ (e : Ev) (p : Pv) (h' : Heap) (tk' : Nat), p.es = (v.pv d).es ++ [e] → e.i = j → Fr h₀ L h' m → News h₀ L h' (Wd w f (setP v d p) ++ R) → Off w f R v (setP v d p) → Q .none { s with heap := h', toks := tk' }) :
   wpAny (model PySem.Challenge.rw_eh5030_01.row.prog w) (ktrTop dp un (some []) cn cs L a ccd [] []) (call (.ref 224) [.ref (f.x d), .ref (f.loc j)] []) Q E s := by
  have NW := fst_app N
  have pX := wd_plan (w := w) (f := f) (v := v) d _ (.head _)
  have pD := wd_plan (w := w) (f := f) (v := v) d _ (.tail _ (.head _))
  have pL := wd_plan (w := w) (f := f) (v := v) d _ (.tail _ (.tail _ (.head _)))
  have qX := wd_lc (w := w) (f := f) (v := v) j _ (.head _)
  have qD := wd_lc (w := w) (f := f) (v := v) j _ (.tail _ (.head _))
  exact add_pos (its := itsOf (ensOf f v d)) B F X T hke (by omega) (by omega) (apart_of NW pD pX (Ne.symm inst_ne_dict)) (apart_of NW pL pX (Ne.symm inst_ne_list)) (apart_of NW pD pL dict_ne_list) (apart_of NW qX pD inst_ne_dict) (apart_of NW qX pL inst_ne_list) (apart_of NW qX pX (inst_ne_inst (by decide)))
    (apart_of NW qD pD (ne_key (by decide))) (apart_of NW qD pL dict_ne_list) (news5 NW pX pD pL qX qD) (by rw [List.size_toArray, List.length_map, List.length_map]; exact hsz) (add_wd O N hR hQ)
theorem addk_wd {f : Fx} {v : Sv} {R : List (Addr × Obj)} {d : Fin 2} {j : Fin 3} (B : Below A₀ base [] h₀) (F : Fr h₀ L s.heap m) (X : (hd.heap_39 w.params).In h₀) (T : Top hd.view_39 LO mean mg mb h₀)
   (hke : cs.kind = .function) (hdp : dp + 50 < 1000) (hun : un + 500 < 9900) (O : FxOk f) (N : News h₀ L s.heap (Wd w f v ++ R)) (hR : ROff f R) (hsz : (v.pv d).es.length < 1000)
   (hQ : ∀ (e : Ev) (p : Pv) (h' : Heap) (tk' : Nat), p.es = (v.pv d).es ++ [e] → e.i = j → Fr h₀ L h' m → News h₀ L h' (Wd w f (setP v d p) ++ R) → Off w f R v (setP v d p) → Q .none { s with heap := h', toks := tk' }) :
   wpAny (model PySem.Challenge.rw_eh5030_01.row.prog w) (ktrTop dp un (some []) cn cs L a ccd [] []) (call (.ref 224) [.ref (f.x d)] [(Str.ofString "memloc", .ref (f.loc j))]) Q E s := by
  have NW := fst_app N
  have pX := wd_plan (w := w) (f := f) (v := v) d _ (.head _)
  have pD := wd_plan (w := w) (f := f) (v := v) d _ (.tail _ (.head _))
  have pL := wd_plan (w := w) (f := f) (v := v) d _ (.tail _ (.tail _ (.head _)))
  have qX := wd_lc (w := w) (f := f) (v := v) j _ (.head _)
  have qD := wd_lc (w := w) (f := f) (v := v) j _ (.tail _ (.head _))
  exact add_kw (its := itsOf (ensOf f v d)) B F X T hke (by omega) (by omega) (apart_of NW pD pX (Ne.symm inst_ne_dict)) (apart_of NW pL pX (Ne.symm inst_ne_list)) (apart_of NW pD pL dict_ne_list) (apart_of NW qX pD inst_ne_dict) (apart_of NW qX pL inst_ne_list) (apart_of NW qX pX (inst_ne_inst (by decide)))
    (apart_of NW qD pD (ne_key (by decide))) (apart_of NW qD pL dict_ne_list) (news5 NW pX pD pL qX qD) (by rw [List.size_toArray, List.length_map, List.length_map]; exact hsz) (add_wd O N hR hQ)
/-- a pick is noted -/
theorem pick_wd {f : Fx} {v : Sv} {R : List (Addr × Obj)} {d : Fin 2} {j : Fin 3} {t : Tok} {prog : Program} {A : Around} (F : Fr h₀ L s.heap m) (O : FxOk f) (N : News h₀ L s.heap (Wd w f v ++ R)) (hR : ROff f R) (hsz : (v.kv d).is.length < 1000)
   (hQ : ∀ (k : Kv) (h' : Heap), k.is = (v.kv d).is ++ [((j, t) : Fin 3 × Tok)] → Fr h₀ L h' m → News h₀ L h' (Wd w f (setK v d k) ++ R) → Off w f R v (setK v d k) → Q .none { s with heap := h' }) :
   wpAny (model prog w) A (call (.builtin "list.append") [.ref (f.pk d), .int ((j.val : Nat) : Int) t]) Q E s := by
  have NW := fst_app N
  refine append_led F NW (wd_pick d) (by rw [List.size_toArray, List.length_map]; omega) fun h' K NN => ?_
  have E1 : (setK v d ⟨(v.kv d).n + 1, (v.kv d).is ++ [(j, t)]⟩).kv d = ⟨(v.kv d).n + 1, (v.kv d).is ++ [(j, t)]⟩ := if_pos rfl
  refine hQ ⟨(v.kv d).n + 1, (v.kv d).is ++ [(j, t)]⟩ h' rfl K.fr (news_app (upd_kv O NW K ?_) (rest_keep K N fun p hp => ?_)) (off_setK N)
  · have e2 : pickVs (setK v d ⟨(v.kv d).n + 1, (v.kv d).is ++ [(j, t)]⟩) d = pickVs v d ++ [Value.int ((j.val : Nat) : Int) t] := by
      unfold pickVs; rw [E1, List.map_append]; rfl
    have e3 : (pickVs v d ++ [Value.int ((j.val : Nat) : Int) t]).toArray = (pickVs v d).toArray.push (.int ((j.val : Nat) : Int) t) := by simp
    unfold pickN; rw [E1, e2, e3]; exact NN
  · rw [List.mem_singleton]; exact (hR.2 p hp d).2.2
end
end Mine
namespace Mine
open PySem PySem.Calls PySem.Spec
/-- the law's own text, by place -/
def stBody : Stmt → List Stmt
  | .FunctionDef _ _ b _ _ _ _ _ _ _ => b
  | .For _ _ b _ _ => b
  | _ => []
def stScope : Stmt → Scope
  | .FunctionDef _ _ _ _ _ _ s _ _ _ => s
  | _ => default
def stLast : List Stmt → Stmt
  | [] => .Pass ⟨0,0,0,0⟩
  | [s] => s
  | _ :: s :: l => stLast (s :: l)
def stAt : List Stmt → Nat → Stmt
  | [], _ => .Pass ⟨0,0,0,0⟩
  | s :: _, 0 => s
  | _ :: l, n + 1 => stAt l n
abbrev lawDef : Stmt := stLast (PySem.Challenge.rw_eh5030_01.row.prog).main.body
abbrev lawSc : Scope := stScope lawDef
abbrev lawB : List Stmt := stBody lawDef
abbrev deedB : List Stmt := stBody (stAt lawB 7)
/-- the law's names -/
structure LawM (f : Fx) (oA : Addr) (m : Str → Option Value) : Prop where
  pool : m (Str.ofString "pool") = some (.ref f.pool)
  cells : m (Str.ofString "cells") = some (.ref f.cells)
  plans : m (Str.ofString "plans") = some (.ref f.plans)
  picks : m (Str.ofString "picks") = some (.ref f.picks)
  offers : m (Str.ofString "offers") = some (.ref oA)
theorem LawM.set {f : Fx} {oA : Addr} {m : Str → Option Value} {x : Str} {o : Option Value} (h : LawM f oA m) (hx : (x ≠ Str.ofString "pool" ∧ x ≠ Str.ofString "cells") ∧ (x ≠ Str.ofString "plans" ∧ x ≠ Str.ofString "picks") ∧ x ≠ Str.ofString "offers") : LawM f oA (fun y => if y = x then o else m y) :=
  ⟨(if_neg (Ne.symm hx.1.1)).trans h.pool, (if_neg (Ne.symm hx.1.2)).trans h.cells, (if_neg (Ne.symm hx.2.1.1)).trans h.plans, (if_neg (Ne.symm hx.2.1.2)).trans h.picks, (if_neg (Ne.symm hx.2.2)).trans h.offers⟩
theorem fin2_of {k : Int} (h1 : 0 ≤ k) (h2 : k < 2) : ∃ d : Fin 2, k = ((d.val : Nat) : Int) := ⟨⟨k.toNat, by omega⟩, by dsimp only; omega⟩
theorem fin3_of {k : Int} (h1 : 0 ≤ k) (h2 : k < 3) : ∃ d : Fin 3, k = ((d.val : Nat) : Int) := ⟨⟨k.toNat, by omega⟩, by dsimp only; omega⟩
theorem fin2_n {i : Nat} (h : i < 2) : ∃ d : Fin 2, ((i : Nat) : Int) = ((d.val : Nat) : Int) := ⟨⟨i, h⟩, rfl⟩
end Mine
namespace Mine
open PySem PySem.Calls PySem.Spec
theorem rs_Y2 : True := by w_top off; trivial
local macro_rules | `(tactic| ktr_enter) => `(tactic| (
  refine' enterK ?k1 ?k2 ?k3 ?k4 ?k5 ?kA ?kF ?kK ?k6 ?k7 ?k8 ?k9 ?kB ?_ ?c5 ?c2 ?c3 ?c4;
  (case kA => exact rfl); (case kF => exact rfl); (case kK => first | assumption | exact rfl); (case k1 => assumption); (case k2 => assumption); (case k3 => assumption); (case k4 => assumption); (case k5 => assumption);
  (case k6 => k_is); (case k7 => k_is); (case k8 => first | (simp only [recursionLimit]; omega) | ktr_room); (case k9 => first | exact BindsTo.of_eq rfl | exact binds_K (by k_in) rfl (by k_is) rfl rfl rfl); (case c5 => decide); (case kB => exact locs rfl); (case c2 => exact rfl); (case c3 => exact rfl); (case c4 => exact rfl)))
local macro_rules | `(tactic| walk_at "subscriptTail") => `(tactic| ((with_reducible show wpAny _ _ (subscriptTail _ _ (Value.ref 58) (Value.int _ _)) _ _ _); k_dflt (refine' item58 ?F ?X ?h ?_; (case F => k_asm); (case X => k_asm); (case h => assumption)); intro t'))
local macro_rules | `(tactic| walk_at "subscriptTail") => `(tactic| ((with_reducible show wpAny _ _ (subscriptTail _ _ (Value.ref 57) (Value.int _ _)) _ _ _); k_dflt (refine' item57 ?F ?X ?h ?_; (case F => k_asm); (case X => k_asm); (case h => assumption)); intro t'))
local macro_rules | `(tactic| walk_at "compareOp NotIn int ref") => `(tactic| ((with_reducible show wpAny _ _ (compareOp CmpOp.NotIn (Value.int _ _) (Value.ref 58)) _ _ _); k_dflt (refine' notin58 ?F ?X ?_; (case F => k_asm); (case X => k_asm))))
local macro_rules | `(tactic| walk_at "compareOp NotIn int ref") => `(tactic| ((with_reducible show wpAny _ _ (compareOp CmpOp.NotIn (Value.int _ _) (Value.ref 57)) _ _ _); k_dflt (refine' notin57 ?F ?X ?_; (case F => k_asm); (case X => k_asm))))
local macro_rules | `(tactic| walk_at "binaryOp LShift int int") => `(tactic| (refine lshift_int_small (by decide) (by decide) (by omega) ?_))
local macro_rules | `(tactic| walk_at "call builtin:_struct.pack") => `(tactic| ((with_reducible show wpAny _ _ (call (Value.builtin _) [Value.str _ _, Value.int _ _]) _ _ _); k_dflt (first | (refine' pack_B ?h0 ?h1 ?_; (case h0 => omega); (case h1 => omega)) | (refine' pack_q ?h0 ?h1 ?_; (case h0 => omega); (case h1 => omega))); intro t'))
local macro_rules | `(tactic| ktr_rel) => `(tactic| exact back_led (by assumption) (by assumption) (by assumption) (by assumption) (by assumption) (fun p hp => .inr hp))
local macro_rules | `(tactic| ktr_unf) => `(tactic| first | omega | ((try dsimp only [Around.deeper, Around.in1, Around.mark]); (try simp only [dU, uU]); (try dsimp only [ktrTop, Around.deeper, Around.in1, Around.mark]); omega))
local macro_rules | `(tactic| k_enter) => `(tactic| (ktr_enter; intro g' L' h' kg' lL' FG' F' N' B' X' T'; (try dsimp only); (try k_fold)))
local macro_rules | `(tactic| walk_at "call ref") => `(tactic| (k_here; k_dflt (refine' call_clsK ?k1 ?k2 ?k3 ?k4 ?k5 ?k6 ?_; (case k1 => k_asm); (case k2 => k_asm); (case k3 => k_asm); (case k4 => k_is); (case k5 => k_is); (case k6 => k_is); k_whole; intro x' d' h' x1 l1 l2 F' N'; (try ((have l9 := news_lt (by assumption) l1); (k_lt l9))); (try k_lt2 l1); (try k_lt2 l2); (try k_sweep); k_enter)))

local macro_rules | `(tactic| walk_at "getMethod ref") => `(tactic| ((with_reducible show wpAny _ _ (getMethod (Value.ref 57) (Str.ofString "keys") _) _ _ _); k_dflt (refine' getKeys (D := D8) ?K ?F ?_; (case K => exact map57 (by k_asm)); (case F => k_asm))))
local macro_rules | `(tactic| walk_at "getMethod ref") => `(tactic| ((with_reducible show wpAny _ _ (getMethod (Value.ref 58) (Str.ofString "keys") _) _ _ _); k_dflt (refine' getKeys (D := D8) ?K ?F ?_; (case K => exact map58 (by k_asm)); (case F => k_asm))))
local macro_rules | `(tactic| walk_at "call builtin:dict.keys") => `(tactic| ((with_reducible show wpAny _ _ (call (Value.builtin "dict.keys") [Value.ref 57]) _ _ _); k_dflt (refine' callKeys (D := D8) ?K ?F ?N ?_; (case K => exact map57 (by k_asm)); (case F => k_asm); (case N => k_asm)); intro v9 h9 F9 N9 l9; (try k_lt l9); (try k_sweep)))
local macro_rules | `(tactic| walk_at "call builtin:dict.keys") => `(tactic| ((with_reducible show wpAny _ _ (call (Value.builtin "dict.keys") [Value.ref 58]) _ _ _); k_dflt (refine' callKeys (D := D8) ?K ?F ?N ?_; (case K => exact map58 (by k_asm)); (case F => k_asm); (case N => k_asm)); intro v9 h9 F9 N9 l9; (try k_lt l9); (try k_sweep)))
local macro_rules | `(tactic| walk_at "call type:list") => `(tactic| ((with_reducible show wpAny _ _ (call (Value.type _) [Value.ref _]) _ _ _); k_dflt (first | (refine' listKeys (a := 57) ?K ?hh ?F ?N ?hv ?_; (case K => exact map57 (by k_asm)); (case hh => exact rfl); (case F => k_asm); (case N => k_asm); (case hv => k_mem)) | (refine' listKeys (a := 58) ?K ?hh ?F ?N ?hv ?_; (case K => exact map58 (by k_asm)); (case hh => exact rfl); (case F => k_asm); (case N => k_asm); (case hv => k_mem))); intro B9 c9 h9 tk9 t91 t92 t93 t94 t95 t96 t97 t98 F9 N9 l9; (try k_lt l9); (try k_sweep)))
local macro_rules | `(tactic| walk_at "binaryOp Mod str ref") => `(tactic| (k_dflt (first | (refine' modL (Y := F1) ?e meetsL ?hg ?hu ?F ?N ?hB ?_; (case e => decide +kernel); (case hg => exact rfl); (case hu => ((show _ < 9900); ktr_unf)); (case F => k_asm); (case N => k_asm); (case hB => k_mem)) | (refine' modL (Y := F2) ?e meetsL2 ?hg ?hu ?F ?N ?hB ?_; (case e => decide +kernel); (case hg => exact rfl); (case hu => ((show _ < 9900); ktr_unf)); (case F => k_asm); (case N => k_asm); (case hB => k_mem))); intro h9 tk9 T9 u9 F9 N9; (try k_sweep)))
local macro_rules | `(tactic| walk_at "leaving ref") => `(tactic| (first
  | (refine' leave_raiseS ?k1 ?k0 ?k2 ?k3 ?_; (case k0 => first | assumption | exact Heap.MadeExc.of (by assumption)); (case k2 => assumption); (case k1 => assumption); (case k3 => k_asm); k_whole; intro h' t' S' R' U'; (try dsimp only at S' R' U' ⊢))
  | (refine' leave_onS ?k1 ?k2 ?k3 ?k4 ?_; (case k3 => assumption); (case k2 => assumption); (case k1 => assumption); (case k4 => assumption); k_whole; intro h' S' R' U'; (try dsimp only at S' R' U' ⊢))))

local macro_rules | `(tactic| walk_at "subscriptTail") => `(tactic| ((with_reducible show wpAny _ _ (subscriptTail _ _ (Value.ref (Fx.pool _)) (Value.int ((Fin.val _ : Nat) : Int) _)) _ _ _); k_dflt (refine' item3 (fun j => Value.ref (Fx.loc _ j)) ?N ?m ?_; (case N => k_asm); (case m => k_mem)); (try dsimp only)))
local macro_rules | `(tactic| walk_at "subscriptTail") => `(tactic| ((with_reducible show wpAny _ _ (subscriptTail _ _ (Value.ref (Fx.cells _)) (Value.int ((Fin.val _ : Nat) : Int) _)) _ _ _); k_dflt (refine' item3 (fun j => Value.ref (Fx.c _ j)) ?N ?m ?_; (case N => k_asm); (case m => k_mem)); (try dsimp only)))
local macro_rules | `(tactic| walk_at "subscriptTail") => `(tactic| ((with_reducible show wpAny _ _ (subscriptTail _ _ (Value.ref (Fx.plans _)) (Value.int ((Fin.val _ : Nat) : Int) _)) _ _ _); k_dflt (refine' item2 (fun j => Value.ref (Fx.x _ j)) ?N ?m ?_; (case N => k_asm); (case m => k_mem)); (try dsimp only)))
local macro_rules | `(tactic| walk_at "subscriptTail") => `(tactic| ((with_reducible show wpAny _ _ (subscriptTail _ _ (Value.ref (Fx.picks _)) (Value.int ((Fin.val _ : Nat) : Int) _)) _ _ _); k_dflt (refine' item2 (fun j => Value.ref (Fx.pk _ j)) ?N ?m ?_; (case N => k_asm); (case m => k_mem)); (try dsimp only)))
local macro_rules | `(tactic| walk_at "call builtin:len") => `(tactic| ((with_reducible show wpAny _ _ (call (Value.builtin "len") [Value.ref _]) _ _ _); k_dflt (refine' len_led ?N ?m ?s ?f ?_; (case N => k_asm); (case m => k_mem); (case s => assumption); (case f => assumption)); intro t9 k9))

local macro_rules | `(tactic| k_handed) => `(tactic| exact handed_vO)
local macro_rules | `(tactic| walk_at "eval Name") => `(tactic| (k_dflt (refine' nameX_L ?k1 ?k2 ?_; (case k1 => k_asm); (case k2 => first | assumption | exact rfl | ((simp (decide := true) only [↓reduceIte]); assumption)))))
local macro_rules | `(tactic| walk_at "pyIter ref") => `(tactic| refine Stop.mk ?_)
local macro_rules | `(tactic| walk_at "call ref") => `(tactic| ((with_reducible show wpAny _ _ (call (Value.ref 299) _ _) _ _ _); refine Stop.mk ?_))
section
variable {w : World} {A₀ : Around} {s : Shared} {base h₀ : Heap} {L : Addr} {m : Str → Option Value} {mean : ExcName → Option Value} {mg mb : Str → Option Value}
  {E : Value → Shared → Prop} {Q : Flow → Shared → Prop} {dp un : Nat} {cn : Str} {a : Addr} {ccd : Value}
theorem hloop_ok {f : Fx} {v : Sv} {R : List (Addr × Obj)} {oA : Addr} (B : Below A₀ base [] h₀) (F : Fr h₀ L s.heap m) (X : (hd.heap_39 w.params).In h₀) (T : Top hd.view_39 LO mean mg mb h₀) (XTB : BaseOk w mean mg mb base)
   (hdp : dp + 100 < 1000) (hun : un + 1000 < 9900) (hE : PassesOwn (model PySem.Challenge.rw_eh5030_01.row.prog w) (ktrTop dp un (some []) cn lawSc L a ccd [] []) (envOf cn lawSc L a ccd) E)
   (N : News h₀ L s.heap (Wd w f v ++ R)) (I : Inv f v) (hm : LawM f oA m)
   (hQ : ∀ (h' : Heap) (tk' : Nat) (m' : Str → Option Value), LawM f oA m' → Fr h₀ L h' m' → News h₀ L h' (Wd w f v ++ R) → Q .next { s with heap := h', toks := tk' }) :
   wpAny (model PySem.Challenge.rw_eh5030_01.row.prog w) (ktrTop dp un (some []) cn lawSc L a ccd [] []) (exec (stAt deedB 6) (envOf cn lawSc L a ccd)) Q E s := by
  revert hE
  conv =>
    pattern (occs := *) (stAt _ _)
    all_goals whnf
  conv =>
    pattern (occs := *) lawSc
    all_goals whnf
  intro hE
  refine For_invV h₀ rfl rfl ?_ (fun _ => rfl) hE
  clear hE
  k_steps
  refine Stop.of ?_
  refine' forRange (L := L) (n := 2) ?hL ?hh ?hr ?hsm ?hn ?F ?N (fun _ m' news' => LawM f oA m' ∧ news' = Wd w f v ++ R) ?h0 ?step ?done
  case hL => rfl
  case hh => rfl
  case hr => assumption
  case hsm => decide
  case hn => rfl
  case F => assumption
  case N => assumption
  case h0 => exact ⟨hm, rfl⟩
  case done =>
    rintro h₂ tk₂ m₂ news₂ F₂ N₂ ⟨hm₂, rfl⟩
    exact hQ _ _ _ hm₂ F₂ N₂
  case step =>
    rintro i t m₁ news₁ h₂ tk₂ own hi ⟨hm₁, rfl⟩ hof hI hown _ F₂ N₂
    obtain ⟨p1, p2, p3, p4, p5⟩ := id hm₁
    obtain ⟨d, hd⟩ := fin2_n hi
    rw [hd] at F₂
    have N₃ := news_app (news_sub N₂ (fun p hp => List.mem_append_right _ (List.mem_append_left _ (wd_top p hp)))) N₂
    simp only [List.cons_append, List.nil_append] at N₃
    k_steps
    refine Stop.of ?_
    refine' holds_ok (f := f) (v := v) (d := d) ?B ?F ?X ?T XTB rfl (by ktr_unf) (by ktr_unf) ?N I ?_
    case B => assumption
    case F => assumption
    case X => assumption
    case T => assumption
    case N => exact news_sub N₂ (fun p hp => List.mem_append_right _ (List.mem_append_left _ hp))
    intro h₄ tk₄ K₄
    have F₄ := K₄.fr
    have N₄ := K₄.news0 N₂
    k_steps
    exact ⟨.inl rfl, _, _, _, _, rfl, F₄, N₄, hof, ⟨by (simp (decide := true) only [↓reduceIte]); exact p1, by (simp (decide := true) only [↓reduceIte]); exact p2, by (simp (decide := true) only [↓reduceIte]); exact p3, by (simp (decide := true) only [↓reduceIte]); exact p4, by (simp (decide := true) only [↓reduceIte]); exact p5⟩, rfl⟩
end
end Mine
namespace Mine
open PySem PySem.Calls PySem.Spec
theorem rs_Y3 : True := by w_top off; trivial
local macro_rules | `(tactic| ktr_enter) => `(tactic| (
  refine' enterK ?k1 ?k2 ?k3 ?k4 ?k5 ?kA ?kF ?kK ?k6 ?k7 ?k8 ?k9 ?kB ?_ ?c5 ?c2 ?c3 ?c4;
  (case kA => exact rfl); (case kF => exact rfl); (case kK => first | assumption | exact rfl); (case k1 => assumption); (case k2 => assumption); (case k3 => assumption); (case k4 => assumption); (case k5 => assumption);
  (case k6 => k_is); (case k7 => k_is); (case k8 => first | (simp only [recursionLimit]; omega) | ktr_room); (case k9 => first | exact BindsTo.of_eq rfl | exact binds_K (by k_in) rfl (by k_is) rfl rfl rfl); (case c5 => decide); (case kB => exact locs rfl); (case c2 => exact rfl); (case c3 => exact rfl); (case c4 => exact rfl)))
local macro_rules | `(tactic| walk_at "subscriptTail") => `(tactic| ((with_reducible show wpAny _ _ (subscriptTail _ _ (Value.ref 58) (Value.int _ _)) _ _ _); k_dflt (refine' item58 ?F ?X ?h ?_; (case F => k_asm); (case X => k_asm); (case h => assumption)); intro t'))
local macro_rules | `(tactic| walk_at "subscriptTail") => `(tactic| ((with_reducible show wpAny _ _ (subscriptTail _ _ (Value.ref 57) (Value.int _ _)) _ _ _); k_dflt (refine' item57 ?F ?X ?h ?_; (case F => k_asm); (case X => k_asm); (case h => assumption)); intro t'))
local macro_rules | `(tactic| walk_at "compareOp NotIn int ref") => `(tactic| ((with_reducible show wpAny _ _ (compareOp CmpOp.NotIn (Value.int _ _) (Value.ref 58)) _ _ _); k_dflt (refine' notin58 ?F ?X ?_; (case F => k_asm); (case X => k_asm))))
local macro_rules | `(tactic| walk_at "compareOp NotIn int ref") => `(tactic| ((with_reducible show wpAny _ _ (compareOp CmpOp.NotIn (Value.int _ _) (Value.ref 57)) _ _ _); k_dflt (refine' notin57 ?F ?X ?_; (case F => k_asm); (case X => k_asm))))
local macro_rules | `(tactic| walk_at "binaryOp LShift int int") => `(tactic| (refine lshift_int_small (by decide) (by decide) (by omega) ?_))
local macro_rules | `(tactic| walk_at "call builtin:_struct.pack") => `(tactic| ((with_reducible show wpAny _ _ (call (Value.builtin _) [Value.str _ _, Value.int _ _]) _ _ _); k_dflt (first | (refine' pack_B ?h0 ?h1 ?_; (case h0 => omega); (case h1 => omega)) | (refine' pack_q ?h0 ?h1 ?_; (case h0 => omega); (case h1 => omega))); intro t'))
local macro_rules | `(tactic| ktr_rel) => `(tactic| exact back_led (by assumption) (by assumption) (by assumption) (by assumption) (by assumption) (fun p hp => .inr hp))
local macro_rules | `(tactic| ktr_unf) => `(tactic| first | omega | ((try dsimp only [Around.deeper, Around.in1, Around.mark]); (try simp only [dU, uU]); (try dsimp only [ktrTop, Around.deeper, Around.in1, Around.mark]); omega))
local macro_rules | `(tactic| k_enter) => `(tactic| (ktr_enter; intro g' L' h' kg' lL' FG' F' N' B' X' T'; (try dsimp only); (try k_fold)))
local macro_rules | `(tactic| walk_at "call ref") => `(tactic| (k_here; k_dflt (refine' call_clsK ?k1 ?k2 ?k3 ?k4 ?k5 ?k6 ?_; (case k1 => k_asm); (case k2 => k_asm); (case k3 => k_asm); (case k4 => k_is); (case k5 => k_is); (case k6 => k_is); k_whole; intro x' d' h' x1 l1 l2 F' N'; (try ((have l9 := news_lt (by assumption) l1); (k_lt l9))); (try k_lt2 l1); (try k_lt2 l2); (try k_sweep); k_enter)))

local macro_rules | `(tactic| walk_at "getMethod ref") => `(tactic| ((with_reducible show wpAny _ _ (getMethod (Value.ref 57) (Str.ofString "keys") _) _ _ _); k_dflt (refine' getKeys (D := D8) ?K ?F ?_; (case K => exact map57 (by k_asm)); (case F => k_asm))))
local macro_rules | `(tactic| walk_at "getMethod ref") => `(tactic| ((with_reducible show wpAny _ _ (getMethod (Value.ref 58) (Str.ofString "keys") _) _ _ _); k_dflt (refine' getKeys (D := D8) ?K ?F ?_; (case K => exact map58 (by k_asm)); (case F => k_asm))))
local macro_rules | `(tactic| walk_at "call builtin:dict.keys") => `(tactic| ((with_reducible show wpAny _ _ (call (Value.builtin "dict.keys") [Value.ref 57]) _ _ _); k_dflt (refine' callKeys (D := D8) ?K ?F ?N ?_; (case K => exact map57 (by k_asm)); (case F => k_asm); (case N => k_asm)); intro v9 h9 F9 N9 l9; (try k_lt l9); (try k_sweep)))
local macro_rules | `(tactic| walk_at "call builtin:dict.keys") => `(tactic| ((with_reducible show wpAny _ _ (call (Value.builtin "dict.keys") [Value.ref 58]) _ _ _); k_dflt (refine' callKeys (D := D8) ?K ?F ?N ?_; (case K => exact map58 (by k_asm)); (case F => k_asm); (case N => k_asm)); intro v9 h9 F9 N9 l9; (try k_lt l9); (try k_sweep)))
local macro_rules | `(tactic| walk_at "call type:list") => `(tactic| ((with_reducible show wpAny _ _ (call (Value.type _) [Value.ref _]) _ _ _); k_dflt (first | (refine' listKeys (a := 57) ?K ?hh ?F ?N ?hv ?_; (case K => exact map57 (by k_asm)); (case hh => exact rfl); (case F => k_asm); (case N => k_asm); (case hv => k_mem)) | (refine' listKeys (a := 58) ?K ?hh ?F ?N ?hv ?_; (case K => exact map58 (by k_asm)); (case hh => exact rfl); (case F => k_asm); (case N => k_asm); (case hv => k_mem))); intro B9 c9 h9 tk9 t91 t92 t93 t94 t95 t96 t97 t98 F9 N9 l9; (try k_lt l9); (try k_sweep)))
local macro_rules | `(tactic| walk_at "binaryOp Mod str ref") => `(tactic| (k_dflt (first | (refine' modL (Y := F1) ?e meetsL ?hg ?hu ?F ?N ?hB ?_; (case e => decide +kernel); (case hg => exact rfl); (case hu => ((show _ < 9900); ktr_unf)); (case F => k_asm); (case N => k_asm); (case hB => k_mem)) | (refine' modL (Y := F2) ?e meetsL2 ?hg ?hu ?F ?N ?hB ?_; (case e => decide +kernel); (case hg => exact rfl); (case hu => ((show _ < 9900); ktr_unf)); (case F => k_asm); (case N => k_asm); (case hB => k_mem))); intro h9 tk9 T9 u9 F9 N9; (try k_sweep)))
local macro_rules | `(tactic| walk_at "leaving ref") => `(tactic| (first
  | (refine' leave_raiseS ?k1 ?k0 ?k2 ?k3 ?_; (case k0 => first | assumption | exact Heap.MadeExc.of (by assumption)); (case k2 => assumption); (case k1 => assumption); (case k3 => k_asm); k_whole; intro h' t' S' R' U'; (try dsimp only at S' R' U' ⊢))
  | (refine' leave_onS ?k1 ?k2 ?k3 ?k4 ?_; (case k3 => assumption); (case k2 => assumption); (case k1 => assumption); (case k4 => assumption); k_whole; intro h' S' R' U'; (try dsimp only at S' R' U' ⊢))))

local macro_rules | `(tactic| walk_at "subscriptTail") => `(tactic| ((with_reducible show wpAny _ _ (subscriptTail _ _ (Value.ref (Fx.pool _)) (Value.int ((Fin.val _ : Nat) : Int) _)) _ _ _); k_dflt (refine' item3 (fun j => Value.ref (Fx.loc _ j)) ?N ?m ?_; (case N => k_asm); (case m => k_mem)); (try dsimp only)))
local macro_rules | `(tactic| walk_at "subscriptTail") => `(tactic| ((with_reducible show wpAny _ _ (subscriptTail _ _ (Value.ref (Fx.cells _)) (Value.int ((Fin.val _ : Nat) : Int) _)) _ _ _); k_dflt (refine' item3 (fun j => Value.ref (Fx.c _ j)) ?N ?m ?_; (case N => k_asm); (case m => k_mem)); (try dsimp only)))
local macro_rules | `(tactic| walk_at "subscriptTail") => `(tactic| ((with_reducible show wpAny _ _ (subscriptTail _ _ (Value.ref (Fx.plans _)) (Value.int ((Fin.val _ : Nat) : Int) _)) _ _ _); k_dflt (refine' item2 (fun j => Value.ref (Fx.x _ j)) ?N ?m ?_; (case N => k_asm); (case m => k_mem)); (try dsimp only)))
local macro_rules | `(tactic| walk_at "subscriptTail") => `(tactic| ((with_reducible show wpAny _ _ (subscriptTail _ _ (Value.ref (Fx.picks _)) (Value.int ((Fin.val _ : Nat) : Int) _)) _ _ _); k_dflt (refine' item2 (fun j => Value.ref (Fx.pk _ j)) ?N ?m ?_; (case N => k_asm); (case m => k_mem)); (try dsimp only)))
local macro_rules | `(tactic| walk_at "call builtin:len") => `(tactic| ((with_reducible show wpAny _ _ (call (Value.builtin "len") [Value.ref _]) _ _ _); k_dflt (refine' len_led ?N ?m ?s ?f ?_; (case N => k_asm); (case m => k_mem); (case s => assumption); (case f => assumption)); intro t9 k9))

local macro_rules | `(tactic| k_handed) => `(tactic| exact handed_vO)
local macro_rules | `(tactic| walk_at "eval Name") => `(tactic| (k_dflt (refine' nameX_L ?k1 ?k2 ?_; (case k1 => k_asm); (case k2 => first | assumption | exact rfl | ((simp (decide := true) only [↓reduceIte]); assumption)))))
local macro_rules | `(tactic| walk_at "pyIter ref") => `(tactic| refine Stop.mk ?_)
local macro_rules | `(tactic| walk_at "call type:zip") => `(tactic| refine Stop.mk ?_)
local macro_rules | `(tactic| walk_at "call ref") => `(tactic| ((with_reducible show wpAny _ _ (call (Value.ref 224) _ _) _ _ _); refine Stop.mk ?_))
local macro_rules | `(tactic| walk_at "call ref") => `(tactic| ((with_reducible show wpAny _ _ (call (Value.ref 287) _ _) _ _ _); refine Stop.mk ?_))
local macro_rules | `(tactic| walk_at "call ref") => `(tactic| ((with_reducible show wpAny _ _ (call (Value.ref 294) _ _) _ _ _); refine Stop.mk ?_))
local macro_rules | `(tactic| walk_at "call builtin:list.append") => `(tactic| refine Stop.mk ?_)
local macro_rules | `(tactic| walk_at "exec For Tuple Call") => `(tactic| refine Stop.mk ?_)
local macro_rules | `(tactic| walk_at "call ref") => `(tactic| ((try dsimp only [List.cons_append, List.nil_append]); (with_reducible show wpAny _ _ (call (Value.ref 252) [Value.ref _]) _ _ _); k_dflt (refine' get_ok ?B ?F ?X ?T ?hk ?hd ?hu ?N ?_; (case B => k_asm); (case F => k_asm); (case X => k_asm); (case T => k_asm); (case hk => first | exact rfl | assumption); (case hd => ktr_unf); (case hu => ktr_unf); (case N => exact news2 (by k_asm) (by k_mem) (by k_mem))); intro h9 tk9 K9; (have N9 := K9.news0 (by assumption)); (have F9 := K9.fr)))
theorem len_add {v : Sv} {d : Fin 2} {p : Pv} {k : Kv} {e : Ev} {n : Nat} (hlen : ∀ d, (v.pv d).es.length ≤ n) (hp : p.es = (v.pv d).es ++ [e]) : ∀ b, ((setK (setP v d p) d k).pv b).es.length ≤ n + 1 := fun b => by
  by_cases h : b = d
  · have e1 : (setK (setP v d p) d k).pv b = p := if_pos h
    rw [e1, hp, List.length_append]
    exact Nat.succ_le_succ (hlen d)
  · have e1 : (setK (setP v d p) d k).pv b = v.pv b := if_neg h
    rw [e1]; exact Nat.le_succ_of_le (hlen b)
theorem un8 {h₀ h' : Heap} {L : Addr} {a b c d e f g k : Addr × Obj} {R : List (Addr × Obj)} (N : News h₀ L h' (a :: b :: c :: d :: e :: f :: g :: k :: R)) : News h₀ L h' R := news_drop 8 N
theorem un6 {h₀ h' : Heap} {L : Addr} {a b c d e f : Addr × Obj} {R : List (Addr × Obj)} (N : News h₀ L h' (a :: b :: c :: d :: e :: f :: R)) : News h₀ L h' R := news_drop 6 N
theorem le_mem {w : World} {f : Fx} {v v' : Sv} {d : Fin 2} (h : v'.pv = v.pv) : (f.le d, listOf (itsOf (ensOf f v d)) (v.pv d).n) ∈ Wd w f v' := by
  have h1 := wd_plan (w := w) (f := f) (v := v') d _ (.tail _ (.tail _ (.head _)))
  have h2 : itsOf (ensOf f v' d) = itsOf (ensOf f v d) := by
    show (List.map _ (List.map _ _)).toArray = (List.map _ (List.map _ _)).toArray
    rw [List.map_map, List.map_map, h]; rfl
  rw [h2, h] at h1
  exact h1
theorem pk_mem {w : World} {f : Fx} {v v' : Sv} {d : Fin 2} (h : v'.kv = v.kv) : (f.pk d, listOf (pickVs v d).toArray (v.kv d).n) ∈ Wd w f v' := by
  have h1 := wd_pick (w := w) (f := f) (v := v') d
  unfold pickN pickVs at h1
  rw [h] at h1
  exact h1
theorem news_swap {h₀ h' : Heap} {L : Addr} {a b c : List (Addr × Obj)} (N : News h₀ L h' (a ++ (b ++ c))) : News h₀ L h' (b ++ (a ++ c)) := news_sub N fun p hp => by
  rcases List.mem_append.mp hp with hp | hp
  · exact List.mem_append_right _ (List.mem_append_left _ hp)
  rcases List.mem_append.mp hp with hp | hp
  · exact List.mem_append_left _ hp
  · exact List.mem_append_right _ (List.mem_append_right _ hp)
theorem news_swap3 {h₀ h' : Heap} {L : Addr} {a b c : List (Addr × Obj)} (N : News h₀ L h' (a ++ (b ++ c))) : News h₀ L h' (a ++ c) := news_sub N fun p hp => by
  rcases List.mem_append.mp hp with hp | hp
  · exact List.mem_append_left _ hp
  · exact List.mem_append_right _ (List.mem_append_right _ hp)
theorem own_off {w : World} {f : Fx} {v : Sv} {d : Fin 2} {h₀ h' : Heap} {L : Addr} {R own : List (Addr × Obj)} {z : Nat} {xs ys : Array Value} {n1 n2 : Nat} (O : FxOk f) (N : News h₀ L h' (Wd w f v ++ R))
   (hown : ∀ p ∈ own, (@LE.le Nat _ h'.objs.size p.1 ∧ @LT.lt Nat _ p.1 z) ∨ p = (f.le d, listOf xs n1) ∨ p = (f.pk d, listOf ys n2)) (hR : ROffL f R) : ROffL f (own ++ R) := fun p hp j => by
  have NW := fst_app N
  have h1 : @LT.lt Nat _ (f.dloc j) h'.objs.size := Heap.lt_size (NW _ (wd_lc j _ (.tail _ (.head _)))).1
  have h2 : @LT.lt Nat _ (f.c j) h'.objs.size := Heap.lt_size (NW _ (wd_cell j)).1
  rcases List.mem_append.mp hp with hp | hp
  · rcases hown p hp with h | h | h
    · exact ⟨Nat.ne_of_gt (Nat.lt_of_lt_of_le h1 h.1), Nat.ne_of_gt (Nat.lt_of_lt_of_le h2 h.1)⟩
    · rw [h]
      exact ⟨apart_of NW (wd_plan d _ (.tail _ (.tail _ (.head _)))) (wd_lc j _ (.tail _ (.head _))) (Ne.symm dict_ne_list), Ne.symm (O.cl j d)⟩
    · rw [h]
      exact ⟨apart_of NW (wd_pick d) (wd_lc j _ (.tail _ (.head _))) (Ne.symm dict_ne_list), Ne.symm (O.cp j d)⟩
  · exact hR p hp j
section
variable {w : World} {A₀ : Around} {s : Shared} {base h₀ : Heap} {L : Addr} {m : Str → Option Value} {mean : ExcName → Option Value} {mg mb : Str → Option Value}
  {E : Value → Shared → Prop} {Q : Flow → Shared → Prop} {dp un : Nat} {cn : Str} {a : Addr} {ccd : Value}
theorem if_ok {f : Fx} {v : Sv} {R : List (Addr × Obj)} {oA : Addr} {d : Fin 2} {j : Fin 3} {a₁ m₁ : Option Int} {q : Int} {td ti ta tm tq : Tok} {n : Nat} (B : Below A₀ base [] h₀) (F : Fr h₀ L s.heap m) (X : (hd.heap_39 w.params).In h₀) (T : Top hd.view_39 LO mean mg mb h₀) (XTB : BaseOk w mean mg mb base)
   (hdp : dp + 100 < 1000) (hun : un + 1000 < 9900) (hE : PassesOwn (model PySem.Challenge.rw_eh5030_01.row.prog w) (ktrTop dp un (some []) cn lawSc L a ccd [] []) (envOf cn lawSc L a ccd) E)
   (O : FxOk f) (Bd : FxB f) (N : News h₀ L s.heap (Wd w f v ++ R)) (hR : ROff f R) (I : Inv f v) (hm : LawM f oA m) (hn : n < 900) (hlen : ∀ d, (v.pv d).es.length ≤ n)
   (md : m (Str.ofString "d") = some (.int ((d.val : Nat) : Int) td)) (mi : m (Str.ofString "i") = some (.int ((j.val : Nat) : Int) ti)) (ma : m (Str.ofString "a") = some (vO a₁ ta)) (mm : m (Str.ofString "m") = some (vO m₁ tm)) (mq : m (Str.ofString "q") = some (.int q tq))
   (hQ : ∀ (v' : Sv) (h' : Heap) (tk' : Nat) (m' : Str → Option Value), Inv f v' → (∀ d, (v'.pv d).es.length ≤ n + 1) → LawM f oA m' → Fr h₀ L h' m' → News h₀ L h' (Wd w f v' ++ R) → Off w f R v v' → Q .next { s with heap := h', toks := tk' }) :
   wpAny (model PySem.Challenge.rw_eh5030_01.row.prog w) (ktrTop dp un (some []) cn lawSc L a ccd [] []) (exec (stAt deedB 5) (envOf cn lawSc L a ccd)) Q E s := by
  revert hE
  conv =>
    pattern (occs := *) (stAt _ _)
    all_goals whnf
  conv =>
    pattern (occs := *) lawSc
    all_goals whnf
  intro hE
  obtain ⟨p1, p2, p3, p4, p5⟩ := id hm
  have front : ∀ (v' : Sv) (h' : Heap), News h₀ L h' (Wd w f v' ++ R) → News h₀ L h' (planN w f v' d ++ ([pickN f v' d] ++ (topN f ++ (Wd w f v' ++ R)))) := fun v' h' N' =>
    news_app (news_sub N' (fun p hp => List.mem_append_left _ (wd_plan d p hp))) (news_app (news_sub N' (fun p hp => by rw [List.mem_singleton.mp hp]; exact List.mem_append_left _ (wd_pick d))) (news_app (news_sub N' (fun p hp => List.mem_append_left _ (wd_top p hp))) N'))
  simp only [List.cons_append, List.nil_append] at front
  have N₀ := front v _ N
  have hsz : (v.pv d).es.length < 1000 := I.small d
  have hks : (v.kv d).is.length = (v.pv d).es.length := by rw [← List.length_map (f := (·.1)), I.picks d, List.length_map]
  k_steps
  · refine Stop.of ?_
    refine' addp_wd (d := d) (j := j) (v := v) (R := R) ?B ?F ?X ?T rfl (by ktr_unf) (by ktr_unf) O ?N hR hsz ?_
    case B => assumption
    case F => assumption
    case X => assumption
    case T => assumption
    case N => exact N
    intro e p h₄ tk₄ he hej F₄ N₄ o₄
    have N₅ := front _ _ N₄
    k_steps
    refine Stop.of ?_
    refine' pick_wd (v := setP v d p) (d := d) (j := j) (R := R) ?F2 O ?N2 hR ?hs ?_
    case F2 => exact F₄
    case N2 => exact N₄
    case hs => show (v.kv d).is.length < 1000; rw [hks]; exact hsz
    intro k h₆ hk F₆ N₆ o₆
    have hsz2 : (v.pv d).es.length + 1 < 1000 := by have := hlen d; omega
    have I₆ := inv_add (p := p) (k := k) (e := e) (t := ti) I he (by rw [hej]; exact hk) hsz2
    k_steps
    exact hQ _ _ _ _ I₆ (len_add hlen he) hm F₆ N₆ (o₄.trans o₆)
  · refine Stop.of ?_
    refine' addk_wd (d := d) (j := j) (v := v) (R := R) ?B ?F ?X ?T rfl (by ktr_unf) (by ktr_unf) O ?N hR hsz ?_
    case B => assumption
    case F => assumption
    case X => assumption
    case T => assumption
    case N => exact N
    intro e p h₄ tk₄ he hej F₄ N₄ o₄
    have N₅ := front _ _ N₄
    k_steps
    refine Stop.of ?_
    refine' pick_wd (v := setP v d p) (d := d) (j := j) (R := R) ?F2 O ?N2 hR ?hs ?_
    case F2 => exact F₄
    case N2 => exact N₄
    case hs => show (v.kv d).is.length < 1000; rw [hks]; exact hsz
    intro k h₆ hk F₆ N₆ o₆
    have hsz2 : (v.pv d).es.length + 1 < 1000 := by have := hlen d; omega
    have I₆ := inv_add (p := p) (k := k) (e := e) (t := ti) I he (by rw [hej]; exact hk) hsz2
    k_steps
    exact hQ _ _ _ _ I₆ (len_add hlen he) hm F₆ N₆ (o₄.trans o₆)
  · refine Stop.of ?_
    refine' asked_wd (j := j) (v := v) (R := R) ?B ?F ?X ?T XTB rfl (by ktr_unf) (by ktr_unf) O Bd ?N hR.1 ?hq ?he
    case B => assumption
    case F => assumption
    case X => assumption
    case T => assumption
    case N => exact N
    case hq =>
      intro o1 o2 l h₄ tk₄ l1 l2 F₄ N₄ o₄
      have N₅ := front _ _ N₄
      k_steps
      refine Stop.of ?_
      refine' tell_wd (j := j) (v := setL v j l) (R := R) ?B ?F ?X ?T rfl (by ktr_unf) (by ktr_unf) O ?N hR.1 ?hq2 ?he2
      case B => assumption
      case F => assumption
      case X => assumption
      case T => assumption
      case N => exact N₄
      case hq2 =>
        intro o3 o4 c h₆ tk₆ c1 c2 F₆ N₆ o₆
        k_steps
        exact hQ _ _ _ _ (inv_tell I Bd l1 l2 c1 c2 o1 o2) (fun d => Nat.le_succ_of_le (hlen d)) hm F₆ N₆ (o₄.trans o₆)
      case he2 =>
        intro hbad
        exact absurd (by rw [show ((setL v j l).cv j).low = _ from I.low j, show ((setL v j l).cv j).high = _ from I.high j]; exact ⟨o1, o2⟩) hbad
    case he =>
      intro hbad h₄ tk₄ F₄ N₄
      have N₅ := front _ _ N₄
      k_steps
      refine Stop.of ?_
      refine' tell_wd (j := j) (v := v) (R := R) ?B ?F ?X ?T rfl (by ktr_unf) (by ktr_unf) O ?N hR.1 ?hq3 ?he3
      case B => assumption
      case F => assumption
      case X => assumption
      case T => assumption
      case N => exact N₄
      case hq3 =>
        intro o3 o4
        exact absurd (by rw [← I.low j, ← I.high j]; exact ⟨o3, o4⟩) hbad
      case he3 =>
        intro _ h₆ tk₆ F₆ N₆
        k_steps
        exact hQ _ _ _ _ I (fun d => Nat.le_succ_of_le (hlen d)) hm F₆ N₆ Off.refl
  · refine Stop.of ?_
    refine PySem.W.For_turns F ?_ (fun _ => rfl) hE
    clear hE
    k_steps
    refine Stop.of ?_
    have NZ : News h₀ L _ (Wd w f v ++ R) := un8 (by assumption)
    refine' forZip (L := L) (l1 := f.le d) (xs := itsOf (ensOf f v d)) (n1 := (v.pv d).n) (l2 := f.pk d) (ys := (pickVs v d).toArray) (n2 := (v.kv d).n) ?zL ?zF ?zN ?z1 ?z2 ?zh ?za ?zb ?zp
      (fun _ m' news' => ∃ v', news' = Wd w f v' ++ R ∧ Inv f v' ∧ v'.pv = v.pv ∧ v'.kv = v.kv ∧ LawM f oA m' ∧ m' (Str.ofString "a") = some (vO a₁ ta) ∧ m' (Str.ofString "m") = some (vO m₁ tm) ∧ m' (Str.ofString "q") = some (.int q tq) ∧ Off w f R v v') ?z0 ?zstep ?zkeep ?zdone
    case zL => rfl
    case zh => rfl
    case za => rfl
    case zb => rfl
    case zp => rfl
    case zF => assumption
    case zN => exact NZ
    case z1 => exact List.mem_append_left _ (wd_plan d _ (.tail _ (.tail _ (.head _))))
    case z2 => exact List.mem_append_left _ (wd_pick d)
    case z0 => exact ⟨v, rfl, I, rfl, rfl, hm, ma, mm, mq, Off.refl⟩
    case zkeep =>
      rintro i m₁' news₁ ⟨v', rfl, _, hpv, hkv, _⟩
      exact ⟨List.mem_append_left _ (le_mem hpv), List.mem_append_left _ (pk_mem hkv)⟩
    case zdone =>
      rintro h₂ tk₂ m₂ news₂ F₂ N₂ _ ⟨v', rfl, I', hpv, hkv, hm', _, _, _, ho⟩
      k_steps
      exact hQ _ _ _ _ I' (fun d => by rw [hpv]; exact Nat.le_succ_of_le (hlen d)) hm' F₂ N₂ ho
    case zstep =>
      rintro i x y m₁' news₁ h₂ tk₂ own hx hy ⟨v', rfl, I', hpv, hkv, hm', ea, em, eq, ho⟩ hsz5 hown ⟨o4, ho4⟩ hof F₂ N₂
      obtain ⟨e, he, rfl⟩ : ∃ e, (v.pv d).es[i]? = some e ∧ x = .ref e.en := by
        simp only [List.getElem?_toArray, List.getElem?_map, Option.map_map] at hx
        obtain ⟨e', h1, h2⟩ := Option.map_eq_some_iff.mp hx
        exact ⟨e', h1, h2.symm⟩
      obtain ⟨j', t, hj, rfl⟩ : ∃ j t, (v.kv d).is[i]? = some (j, t) ∧ y = .int ((j.val : Nat) : Int) t := by
        simp only [List.getElem?_toArray, List.getElem?_map] at hy
        obtain ⟨e', h1, h2⟩ := Option.map_eq_some_iff.mp hy
        exact ⟨e'.1, e'.2, h1, h2.symm⟩
      obtain rfl : j' = e.i := by
        have h1 : ((v.kv d).is.map (·.1))[i]? = some j' := by rw [List.getElem?_map, hj]; rfl
        have h2 : ((v.pv d).es.map (·.i))[i]? = some e.i := by rw [List.getElem?_map, he]; rfl
        rw [I.picks d, h2] at h1
        exact (Option.some.inj h1).symm
      have hm9 : e ∈ (v'.pv d).es := by rw [hpv]; exact List.mem_of_getElem? he
      obtain ⟨p1, p2, p3, p4, p5⟩ := id hm'
      have hRo : ROffL f (own ++ R) := own_off O NZ hown hR.1
      have NS := news_swap N₂
      have frontZ : ∀ (v'' : Sv) (h' : Heap), v''.pv = v'.pv → News h₀ L h' (Wd w f v'' ++ (own ++ R)) → News h₀ L h' (ev2 w f e ++ (topN f ++ (Wd w f v'' ++ (own ++ R)))) := fun v'' h' hv N' =>
        news_app (news_sub N' (fun p hp => List.mem_append_left _ (wd_ev (d := d) (by rw [hv]; exact hm9) p hp))) (news_app (news_sub N' (fun p hp => List.mem_append_left _ (wd_top p hp))) N')
      simp only [List.cons_append, List.nil_append] at frontZ
      have N₃ := frontZ v' _ rfl NS
      k_steps
      refine Stop.of ?_
      have hmk : Mark _ 5 (own ++ R) := ⟨_, List.mem_append_left _ ho4, Nat.le_refl _⟩
      refine' tell_wd (j := e.i) (v := v') (R := own ++ R) ?B4 ?F4 ?X4 ?T4 rfl (by ktr_unf) (by ktr_unf) O NS hRo ?tq ?te
      case B4 => assumption
      case F4 => assumption
      case X4 => assumption
      case T4 => assumption
      case tq =>
        intro o1 o2 c h₄ tk₄ c1 c2 F₄ N₄ f₄
        have N₅ := frontZ (setC v' e.i c) _ rfl N₄
        k_steps
        refine Stop.of ?_
        refine' asked_wd (j := e.i) (v := setC v' e.i c) (R := own ++ R) ?B5 ?F5 ?X5 ?T5 XTB rfl (by ktr_unf) (by ktr_unf) O Bd ?N5 hRo ?aq ?ae
        case B5 => assumption
        case F5 => assumption
        case X5 => assumption
        case T5 => assumption
        case N5 => exact un6 (by assumption)
        case aq =>
          intro o3 o4' l h₆ tk₆ l1 l2 F₆ N₆ f₆
          k_steps
          refine ⟨.inl rfl, _, _, _, _, rfl, F₆, news_swap N₆, off_app ((f₄.trans f₆) _ 5 hmk (fun p hp => hof p (List.mem_append_left _ hp))) (fun p hp => hof p (List.mem_append_right _ hp)), setL (setC v' e.i c) e.i l, rfl, inv_tell I' Bd l1 l2 c1 c2 o3 o4', hpv, hkv, ((hm'.set (by decide)).set (by decide)).set (by decide), ?_, ?_, ?_, ho.trans ((f₄.trans f₆).sub (fun p hp => List.mem_append_right _ hp))⟩
          · (simp (decide := true) only [↓reduceIte]); exact ea
          · (simp (decide := true) only [↓reduceIte]); exact em
          · (simp (decide := true) only [↓reduceIte]); exact eq
        case ae =>
          intro hbad
          exact absurd (by rw [show ((setC v' e.i c).lv e.i).low = _ from (I'.low e.i).symm, show ((setC v' e.i c).lv e.i).high = _ from (I'.high e.i).symm]; exact ⟨o1, o2⟩) hbad
      case te =>
        intro hbad h₄ tk₄ F₄ N₄
        have N₅ := frontZ v' _ rfl N₄
        k_steps
        refine Stop.of ?_
        refine' asked_wd (j := e.i) (v := v') (R := own ++ R) ?B6 ?F6 ?X6 ?T6 XTB rfl (by ktr_unf) (by ktr_unf) O Bd ?N6 hRo ?bq ?be
        case B6 => assumption
        case F6 => assumption
        case X6 => assumption
        case T6 => assumption
        case N6 => exact un6 (by assumption)
        case bq =>
          intro o3 o4'
          exact absurd (by rw [I'.low e.i, I'.high e.i]; exact ⟨o3, o4'⟩) hbad
        case be =>
          intro _ h₆ tk₆ F₆ N₆
          k_steps
          show wpAny _ _ (execs [] _) _ _ _
          k_steps
          exact hQ _ _ _ _ I' (fun d => by rw [hpv]; exact Nat.le_succ_of_le (hlen d)) (((hm'.set (by decide)).set (by decide)).set (by decide)) F₆ (news_swap3 N₆) ho
end
end Mine
namespace Mine
open PySem PySem.Calls PySem.Spec
theorem rs_Y4 : True := by w_top off; trivial
local macro_rules | `(tactic| ktr_enter) => `(tactic| (
  refine' enterK ?k1 ?k2 ?k3 ?k4 ?k5 ?kA ?kF ?kK ?k6 ?k7 ?k8 ?k9 ?kB ?_ ?c5 ?c2 ?c3 ?c4;
  (case kA => exact rfl); (case kF => exact rfl); (case kK => first | assumption | exact rfl); (case k1 => assumption); (case k2 => assumption); (case k3 => assumption); (case k4 => assumption); (case k5 => assumption);
  (case k6 => k_is); (case k7 => k_is); (case k8 => first | (simp only [recursionLimit]; omega) | ktr_room); (case k9 => first | exact BindsTo.of_eq rfl | exact binds_K (by k_in) rfl (by k_is) rfl rfl rfl); (case c5 => decide); (case kB => exact locs rfl); (case c2 => exact rfl); (case c3 => exact rfl); (case c4 => exact rfl)))
local macro_rules | `(tactic| walk_at "subscriptTail") => `(tactic| ((with_reducible show wpAny _ _ (subscriptTail _ _ (Value.ref 58) (Value.int _ _)) _ _ _); k_dflt (refine' item58 ?F ?X ?h ?_; (case F => k_asm); (case X => k_asm); (case h => assumption)); intro t'))
local macro_rules | `(tactic| walk_at "subscriptTail") => `(tactic| ((with_reducible show wpAny _ _ (subscriptTail _ _ (Value.ref 57) (Value.int _ _)) _ _ _); k_dflt (refine' item57 ?F ?X ?h ?_; (case F => k_asm); (case X => k_asm); (case h => assumption)); intro t'))
local macro_rules | `(tactic| walk_at "compareOp NotIn int ref") => `(tactic| ((with_reducible show wpAny _ _ (compareOp CmpOp.NotIn (Value.int _ _) (Value.ref 58)) _ _ _); k_dflt (refine' notin58 ?F ?X ?_; (case F => k_asm); (case X => k_asm))))
local macro_rules | `(tactic| walk_at "compareOp NotIn int ref") => `(tactic| ((with_reducible show wpAny _ _ (compareOp CmpOp.NotIn (Value.int _ _) (Value.ref 57)) _ _ _); k_dflt (refine' notin57 ?F ?X ?_; (case F => k_asm); (case X => k_asm))))
local macro_rules | `(tactic| walk_at "binaryOp LShift int int") => `(tactic| (refine lshift_int_small (by decide) (by decide) (by omega) ?_))
local macro_rules | `(tactic| walk_at "call builtin:_struct.pack") => `(tactic| ((with_reducible show wpAny _ _ (call (Value.builtin _) [Value.str _ _, Value.int _ _]) _ _ _); k_dflt (first | (refine' pack_B ?h0 ?h1 ?_; (case h0 => omega); (case h1 => omega)) | (refine' pack_q ?h0 ?h1 ?_; (case h0 => omega); (case h1 => omega))); intro t'))
local macro_rules | `(tactic| ktr_rel) => `(tactic| exact back_led (by assumption) (by assumption) (by assumption) (by assumption) (by assumption) (fun p hp => .inr hp))
local macro_rules | `(tactic| ktr_unf) => `(tactic| first | omega | ((try dsimp only [Around.deeper, Around.in1, Around.mark]); (try simp only [dU, uU]); (try dsimp only [ktrTop, Around.deeper, Around.in1, Around.mark]); omega))
local macro_rules | `(tactic| k_enter) => `(tactic| (ktr_enter; intro g' L' h' kg' lL' FG' F' N' B' X' T'; (try dsimp only); (try k_fold)))
local macro_rules | `(tactic| walk_at "call ref") => `(tactic| (k_here; k_dflt (refine' call_clsK ?k1 ?k2 ?k3 ?k4 ?k5 ?k6 ?_; (case k1 => k_asm); (case k2 => k_asm); (case k3 => k_asm); (case k4 => k_is); (case k5 => k_is); (case k6 => k_is); k_whole; intro x' d' h' x1 l1 l2 F' N'; (try ((have l9 := news_lt (by assumption) l1); (k_lt l9))); (try k_lt2 l1); (try k_lt2 l2); (try k_sweep); k_enter)))

local macro_rules | `(tactic| walk_at "getMethod ref") => `(tactic| ((with_reducible show wpAny _ _ (getMethod (Value.ref 57) (Str.ofString "keys") _) _ _ _); k_dflt (refine' getKeys (D := D8) ?K ?F ?_; (case K => exact map57 (by k_asm)); (case F => k_asm))))
local macro_rules | `(tactic| walk_at "getMethod ref") => `(tactic| ((with_reducible show wpAny _ _ (getMethod (Value.ref 58) (Str.ofString "keys") _) _ _ _); k_dflt (refine' getKeys (D := D8) ?K ?F ?_; (case K => exact map58 (by k_asm)); (case F => k_asm))))
local macro_rules | `(tactic| walk_at "call builtin:dict.keys") => `(tactic| ((with_reducible show wpAny _ _ (call (Value.builtin "dict.keys") [Value.ref 57]) _ _ _); k_dflt (refine' callKeys (D := D8) ?K ?F ?N ?_; (case K => exact map57 (by k_asm)); (case F => k_asm); (case N => k_asm)); intro v9 h9 F9 N9 l9; (try k_lt l9); (try k_sweep)))
local macro_rules | `(tactic| walk_at "call builtin:dict.keys") => `(tactic| ((with_reducible show wpAny _ _ (call (Value.builtin "dict.keys") [Value.ref 58]) _ _ _); k_dflt (refine' callKeys (D := D8) ?K ?F ?N ?_; (case K => exact map58 (by k_asm)); (case F => k_asm); (case N => k_asm)); intro v9 h9 F9 N9 l9; (try k_lt l9); (try k_sweep)))
local macro_rules | `(tactic| walk_at "call type:list") => `(tactic| ((with_reducible show wpAny _ _ (call (Value.type _) [Value.ref _]) _ _ _); k_dflt (first | (refine' listKeys (a := 57) ?K ?hh ?F ?N ?hv ?_; (case K => exact map57 (by k_asm)); (case hh => exact rfl); (case F => k_asm); (case N => k_asm); (case hv => k_mem)) | (refine' listKeys (a := 58) ?K ?hh ?F ?N ?hv ?_; (case K => exact map58 (by k_asm)); (case hh => exact rfl); (case F => k_asm); (case N => k_asm); (case hv => k_mem))); intro B9 c9 h9 tk9 t91 t92 t93 t94 t95 t96 t97 t98 F9 N9 l9; (try k_lt l9); (try k_sweep)))
local macro_rules | `(tactic| walk_at "binaryOp Mod str ref") => `(tactic| (k_dflt (first | (refine' modL (Y := F1) ?e meetsL ?hg ?hu ?F ?N ?hB ?_; (case e => decide +kernel); (case hg => exact rfl); (case hu => ((show _ < 9900); ktr_unf)); (case F => k_asm); (case N => k_asm); (case hB => k_mem)) | (refine' modL (Y := F2) ?e meetsL2 ?hg ?hu ?F ?N ?hB ?_; (case e => decide +kernel); (case hg => exact rfl); (case hu => ((show _ < 9900); ktr_unf)); (case F => k_asm); (case N => k_asm); (case hB => k_mem))); intro h9 tk9 T9 u9 F9 N9; (try k_sweep)))
local macro_rules | `(tactic| walk_at "leaving ref") => `(tactic| (first
  | (refine' leave_raiseS ?k1 ?k0 ?k2 ?k3 ?_; (case k0 => first | assumption | exact Heap.MadeExc.of (by assumption)); (case k2 => assumption); (case k1 => assumption); (case k3 => k_asm); k_whole; intro h' t' S' R' U'; (try dsimp only at S' R' U' ⊢))
  | (refine' leave_onS ?k1 ?k2 ?k3 ?k4 ?_; (case k3 => assumption); (case k2 => assumption); (case k1 => assumption); (case k4 => assumption); k_whole; intro h' S' R' U'; (try dsimp only at S' R' U' ⊢))))

local macro_rules | `(tactic| walk_at "subscriptTail") => `(tactic| ((with_reducible show wpAny _ _ (subscriptTail _ _ (Value.ref (Fx.pool _)) (Value.int ((Fin.val _ : Nat) : Int) _)) _ _ _); k_dflt (refine' item3 (fun j => Value.ref (Fx.loc _ j)) ?N ?m ?_; (case N => k_asm); (case m => k_mem)); (try dsimp only)))
local macro_rules | `(tactic| walk_at "subscriptTail") => `(tactic| ((with_reducible show wpAny _ _ (subscriptTail _ _ (Value.ref (Fx.cells _)) (Value.int ((Fin.val _ : Nat) : Int) _)) _ _ _); k_dflt (refine' item3 (fun j => Value.ref (Fx.c _ j)) ?N ?m ?_; (case N => k_asm); (case m => k_mem)); (try dsimp only)))
local macro_rules | `(tactic| walk_at "subscriptTail") => `(tactic| ((with_reducible show wpAny _ _ (subscriptTail _ _ (Value.ref (Fx.plans _)) (Value.int ((Fin.val _ : Nat) : Int) _)) _ _ _); k_dflt (refine' item2 (fun j => Value.ref (Fx.x _ j)) ?N ?m ?_; (case N => k_asm); (case m => k_mem)); (try dsimp only)))
local macro_rules | `(tactic| walk_at "subscriptTail") => `(tactic| ((with_reducible show wpAny _ _ (subscriptTail _ _ (Value.ref (Fx.picks _)) (Value.int ((Fin.val _ : Nat) : Int) _)) _ _ _); k_dflt (refine' item2 (fun j => Value.ref (Fx.pk _ j)) ?N ?m ?_; (case N => k_asm); (case m => k_mem)); (try dsimp only)))
local macro_rules | `(tactic| walk_at "call builtin:len") => `(tactic| ((with_reducible show wpAny _ _ (call (Value.builtin "len") [Value.ref _]) _ _ _); k_dflt (refine' len_led ?N ?m ?s ?f ?_; (case N => k_asm); (case m => k_mem); (case s => assumption); (case f => assumption)); intro t9 k9))

local macro_rules | `(tactic| k_handed) => `(tactic| exact handed_vO)
local macro_rules | `(tactic| walk_at "eval Name") => `(tactic| (k_dflt (refine' nameX_L ?k1 ?k2 ?_; (case k1 => k_asm); (case k2 => first | assumption | exact rfl | ((simp (decide := true) only [↓reduceIte]); assumption)))))
section
variable {prog : Program} {w : World} {A : Around} {E Q : Value → Shared → Prop} {s : Shared} {h₀ : Heap} {L T : Addr} {news : List (Addr × Obj)} {u : Tok} {slice : Expr} {x : Str} {p : Pos}
theorem off12 {oo : Obj} {k : Int} (N : News h₀ L s.heap news) (hm : (T, oo) ∈ news) (hoo : OffT oo) (hs : ∀ (k : Int) (u : Tok), subscripted slice false (.ref T) (.int k u) = operate [.ref T, .int k u] (getItem (.ref T) (.int k u)))
    (h : ∀ lo t, Q (vO lo t) s) : wpAny (model prog w) A (subscriptTail (.Name x p) slice (.ref T) (.int (k.fmod 12) u)) Q E s := by
  obtain ⟨t1, t2, t3, t4, t5, t6, t7, t8, t9, t10, t11, rfl⟩ := hoo
  have hb := fm_bnd k (n := 12) (by decide)
  have hc : k.fmod 12 = ((0 : Nat) : Int) ∨ k.fmod 12 = ((1 : Nat) : Int) ∨ k.fmod 12 = ((2 : Nat) : Int) ∨ k.fmod 12 = ((3 : Nat) : Int) ∨ k.fmod 12 = ((4 : Nat) : Int) ∨ k.fmod 12 = ((5 : Nat) : Int) ∨ k.fmod 12 = ((6 : Nat) : Int) ∨ k.fmod 12 = ((7 : Nat) : Int) ∨ k.fmod 12 = ((8 : Nat) : Int) ∨ k.fmod 12 = ((9 : Nat) : Int) ∨ k.fmod 12 = ((10 : Nat) : Int) ∨ k.fmod 12 = ((11 : Nat) : Int) := by omega
  rcases hc with e | e | e | e | e | e | e | e | e | e | e | e
  · exact tupI N hm e (by decide) rfl hs (h none 0)
  · exact tupI N hm e (by decide) rfl hs (h (some 8) t1)
  · exact tupI N hm e (by decide) rfl hs (h (some 16) t2)
  · exact tupI N hm e (by decide) rfl hs (h (some 24) t3)
  · exact tupI N hm e (by decide) rfl hs (h (some 32) t4)
  · exact tupI N hm e (by decide) rfl hs (h (some 40) t5)
  · exact tupI N hm e (by decide) rfl hs (h (some 48) t6)
  · exact tupI N hm e (by decide) rfl hs (h (some 56) t7)
  · exact tupI N hm e (by decide) rfl hs (h (some 64) t8)
  · exact tupI N hm e (by decide) rfl hs (h (some 12) t9)
  · exact tupI N hm e (by decide) rfl hs (h (some 0) t10)
  · exact tupI N hm e (by decide) rfl hs (h (some 72) t11)
end
local macro_rules | `(tactic| walk_at "subscriptTail") => `(tactic| ((with_reducible show wpAny _ _ (subscriptTail _ _ (Value.ref _) (Value.int (Int.fmod _ 12) _)) _ _ _); k_dflt (refine' off12 ?N ?m ?o ?h ?_; (case N => k_asm); (case m => k_mem); (case o => assumption); (case h => exact fun _ _ => by with_unfolding_all rfl)); intro lo9 t9))
local macro_rules | `(tactic| walk_at "execs cons") => `(tactic| ((with_reducible show wpAny _ _ (execs (Stmt.If _ _ _ _ :: _) _) _ _ _); refine Stop.mk ?_))
local macro_rules | `(tactic| walk_at "exec For") => `(tactic| refine Stop.mk ?_)
local macro_rules | `(tactic| walk_at "exec For Name Call cons nil") => `(tactic| refine Stop.mk ?_)
section
variable {w : World} {A₀ : Around} {s : Shared} {base h₀ : Heap} {L : Addr} {m : Str → Option Value} {mean : ExcName → Option Value} {mg mb : Str → Option Value}
  {E : Value → Shared → Prop} {Q : Flow → Shared → Prop} {dp un : Nat} {cn : Str} {a : Addr} {ccd : Value}
theorem deed_ok {f : Fx} {v : Sv} {R : List (Addr × Obj)} {oA : Addr} {oo : Obj} {qn : Int} {tn : Tok} {n : Nat} (B : Below A₀ base [] h₀) (F : Fr h₀ L s.heap m) (X : (hd.heap_39 w.params).In h₀) (T : Top hd.view_39 LO mean mg mb h₀) (XTB : BaseOk w mean mg mb base)
   (hdp : dp + 100 < 1000) (hun : un + 1000 < 9900) (hE : PassesOwn (model PySem.Challenge.rw_eh5030_01.row.prog w) (ktrTop dp un (some []) cn lawSc L a ccd [] []) (envOf cn lawSc L a ccd) E)
   (O : FxOk f) (Bd : FxB f) (N : News h₀ L s.heap (Wd w f v ++ R)) (hR : ROff f R) (I : Inv f v) (hm : LawM f oA m) (hn : n < 900) (hlen : ∀ d, (v.pv d).es.length ≤ n)
   (hoA : (oA, oo) ∈ R) (hoo : OffT oo) (mn : m (Str.ofString "n") = some (.int qn tn))
   (hQ : ∀ (v' : Sv) (h' : Heap) (tk' : Nat) (m' : Str → Option Value), Inv f v' → (∀ d, (v'.pv d).es.length ≤ n + 1) → LawM f oA m' → Fr h₀ L h' m' → News h₀ L h' (Wd w f v' ++ R) → Off w f R v v' → Q .next { s with heap := h', toks := tk' }) :
   wpAny (model PySem.Challenge.rw_eh5030_01.row.prog w) (ktrTop dp un (some []) cn lawSc L a ccd [] []) (execs deedB (envOf cn lawSc L a ccd)) Q E s := by
  have hE0 := hE
  revert hE
  conv =>
    pattern (occs := *) deedB
    all_goals whnf
  conv =>
    pattern (occs := *) lawSc
    all_goals whnf
  intro hE
  clear hE
  obtain ⟨p1, p2, p3, p4, p5⟩ := id hm
  have N₀ : News h₀ L s.heap ((oA, oo) :: (Wd w f v ++ R)) := List.forall_mem_cons.mpr ⟨N _ (List.mem_append_right _ hoA), N⟩
  k_steps
  refine Stop.of ?_
  rename_i h₁ lo₂ t₂ h₂ lo₃ t₃ h₃ F₃ N₃
  have hb2 := fm_bnd ((qn * 48271).fmod 2147483647) (n := 2) (by decide)
  have hb3 := fm_bnd (((qn * 48271).fmod 2147483647).fdiv 2) (n := 3) (by decide)
  obtain ⟨d, hd⟩ := fin2_of hb2.1 hb2.2
  obtain ⟨j, hj⟩ := fin3_of hb3.1 hb3.2
  obtain ⟨m₁, F₁, hm₁, ⟨td, e1⟩, ⟨ti, e2⟩, ⟨ta, e3⟩, ⟨tm, e4⟩, ⟨tq, e5⟩⟩ : ∃ m₁, Fr h₀ L h₃ m₁ ∧ LawM f oA m₁ ∧ (∃ t, m₁ (Str.ofString "d") = some (.int ((d.val : Nat) : Int) t)) ∧ (∃ t, m₁ (Str.ofString "i") = some (.int ((j.val : Nat) : Int) t)) ∧ (∃ t, m₁ (Str.ofString "a") = some (vO lo₂ t)) ∧ (∃ t, m₁ (Str.ofString "m") = some (vO lo₃ t)) ∧ (∃ t, m₁ (Str.ofString "q") = some (.int ((qn * 48271).fmod 2147483647) t)) := by
    rw [hd, hj] at F₃
    exact ⟨_, F₃, ((((hm.set (by decide)).set (by decide)).set (by decide)).set (by decide)).set (by decide),
      ⟨_, (if_neg (by decide)).trans ((if_neg (by decide)).trans ((if_neg (by decide)).trans (if_pos rfl)))⟩, ⟨_, (if_neg (by decide)).trans ((if_neg (by decide)).trans (if_pos rfl))⟩, ⟨_, (if_neg (by decide)).trans (if_pos rfl)⟩, ⟨_, if_pos rfl⟩, ⟨_, (if_neg (by decide)).trans ((if_neg (by decide)).trans ((if_neg (by decide)).trans ((if_neg (by decide)).trans (if_pos rfl))))⟩⟩
  have NW : News h₀ L h₃ (Wd w f v ++ R) := newsT N₃
  clear F₃ N₃
  refine joinX (h₀ := h₀) (L := L) (fun h' m' => ∃ v', Inv f v' ∧ (∀ d, (v'.pv d).es.length ≤ n + 1) ∧ LawM f oA m' ∧ News h₀ L h' (Wd w f v' ++ R) ∧ Off w f R v v') ?jA ?jB
  case jA =>
    refine if_ok (f := f) (v := v) (R := R) (oA := oA) (d := d) (j := j) (a₁ := lo₂) (m₁ := lo₃) (q := (qn * 48271).fmod 2147483647) (n := n) B F₁ X T XTB hdp hun hE0 O Bd NW hR I hm₁ hn hlen e1 e2 e3 e4 e5 ?_
    intro v' h' tk' m' I' hl' hm' F' N' ho
    exact ⟨rfl, h', tk', m', rfl, F', v', I', hl', hm', N', ho⟩
  case jB =>
    rintro h' tk' m' F' ⟨v', I', hl', hm', N', ho⟩
    k_steps
    refine Stop.of ?_
    refine hloop_ok (f := f) (v := v') (R := R) (oA := oA) B F' X T XTB hdp hun hE0 N' I' hm' ?_
    intro h'' tk'' m'' hm'' F'' N''
    k_steps
    exact hQ _ _ _ _ I' hl' hm'' F'' N'' ho
end
end Mine
namespace Mine
open PySem PySem.Calls PySem.Spec
theorem rs_Y5 : True := by w_top off; trivial
local macro_rules | `(tactic| walk_at "zz") => `(tactic| fail)
local macro_rules | `(tactic| walk_at "zz") => `(tactic| fail)
local macro_rules | `(tactic| walk_at "zz") => `(tactic| fail)
local macro_rules | `(tactic| ktr_enter) => `(tactic| (
  refine' enterK ?k1 ?k2 ?k3 ?k4 ?k5 ?kA ?kF ?kK ?k6 ?k7 ?k8 ?k9 ?kB ?_ ?c5 ?c2 ?c3 ?c4;
  (case kA => exact rfl); (case kF => exact rfl); (case kK => first | assumption | exact rfl); (case k1 => assumption); (case k2 => assumption); (case k3 => assumption); (case k4 => assumption); (case k5 => assumption);
  (case k6 => k_is); (case k7 => k_is); (case k8 => first | (simp only [recursionLimit]; omega) | ktr_room); (case k9 => first | exact BindsTo.of_eq rfl | exact binds_K (by k_in) rfl (by k_is) rfl rfl rfl); (case c5 => decide); (case kB => exact locs rfl); (case c2 => exact rfl); (case c3 => exact rfl); (case c4 => exact rfl)))
local macro_rules | `(tactic| walk_at "subscriptTail") => `(tactic| ((with_reducible show wpAny _ _ (subscriptTail _ _ (Value.ref 58) (Value.int _ _)) _ _ _); k_dflt (refine' item58 ?F ?X ?h ?_; (case F => k_asm); (case X => k_asm); (case h => assumption)); intro t'))
local macro_rules | `(tactic| walk_at "subscriptTail") => `(tactic| ((with_reducible show wpAny _ _ (subscriptTail _ _ (Value.ref 57) (Value.int _ _)) _ _ _); k_dflt (refine' item57 ?F ?X ?h ?_; (case F => k_asm); (case X => k_asm); (case h => assumption)); intro t'))
local macro_rules | `(tactic| walk_at "compareOp NotIn int ref") => `(tactic| ((with_reducible show wpAny _ _ (compareOp CmpOp.NotIn (Value.int _ _) (Value.ref 58)) _ _ _); k_dflt (refine' notin58 ?F ?X ?_; (case F => k_asm); (case X => k_asm))))
local macro_rules | `(tactic| walk_at "compareOp NotIn int ref") => `(tactic| ((with_reducible show wpAny _ _ (compareOp CmpOp.NotIn (Value.int _ _) (Value.ref 57)) _ _ _); k_dflt (refine' notin57 ?F ?X ?_; (case F => k_asm); (case X => k_asm))))
local macro_rules | `(tactic| walk_at "binaryOp LShift int int") => `(tactic| (refine lshift_int_small (by decide) (by decide) (by omega) ?_))
local macro_rules | `(tactic| walk_at "call builtin:_struct.pack") => `(tactic| ((with_reducible show wpAny _ _ (call (Value.builtin _) [Value.str _ _, Value.int _ _]) _ _ _); k_dflt (first | (refine' pack_B ?h0 ?h1 ?_; (case h0 => omega); (case h1 => omega)) | (refine' pack_q ?h0 ?h1 ?_; (case h0 => omega); (case h1 => omega))); intro t'))
local macro_rules | `(tactic| ktr_rel) => `(tactic| exact back_led (by assumption) (by assumption) (by assumption) (by assumption) (by assumption) (fun p hp => .inr hp))
local macro_rules | `(tactic| ktr_unf) => `(tactic| first | omega | ((try dsimp only [Around.deeper, Around.in1, Around.mark]); (try simp only [dU, uU]); (try dsimp only [ktrTop, Around.deeper, Around.in1, Around.mark]); omega))
local macro_rules | `(tactic| k_enter) => `(tactic| (ktr_enter; intro g' L' h' kg' lL' FG' F' N' B' X' T'; (try dsimp only); (try k_fold)))
local macro_rules | `(tactic| walk_at "call ref") => `(tactic| (k_here; k_dflt (refine' call_clsK ?k1 ?k2 ?k3 ?k4 ?k5 ?k6 ?_; (case k1 => k_asm); (case k2 => k_asm); (case k3 => k_asm); (case k4 => k_is); (case k5 => k_is); (case k6 => k_is); k_whole; intro x' d' h' x1 l1 l2 F' N'; (try ((have l9 := news_lt (by assumption) l1); (k_lt l9))); (try k_lt2 l1); (try k_lt2 l2); (try k_sweep); k_enter)))

local macro_rules | `(tactic| walk_at "getMethod ref") => `(tactic| ((with_reducible show wpAny _ _ (getMethod (Value.ref 57) (Str.ofString "keys") _) _ _ _); k_dflt (refine' getKeys (D := D8) ?K ?F ?_; (case K => exact map57 (by k_asm)); (case F => k_asm))))
local macro_rules | `(tactic| walk_at "getMethod ref") => `(tactic| ((with_reducible show wpAny _ _ (getMethod (Value.ref 58) (Str.ofString "keys") _) _ _ _); k_dflt (refine' getKeys (D := D8) ?K ?F ?_; (case K => exact map58 (by k_asm)); (case F => k_asm))))
local macro_rules | `(tactic| walk_at "call builtin:dict.keys") => `(tactic| ((with_reducible show wpAny _ _ (call (Value.builtin "dict.keys") [Value.ref 57]) _ _ _); k_dflt (refine' callKeys (D := D8) ?K ?F ?N ?_; (case K => exact map57 (by k_asm)); (case F => k_asm); (case N => k_asm)); intro v9 h9 F9 N9 l9; (try k_lt l9); (try k_sweep)))
local macro_rules | `(tactic| walk_at "call builtin:dict.keys") => `(tactic| ((with_reducible show wpAny _ _ (call (Value.builtin "dict.keys") [Value.ref 58]) _ _ _); k_dflt (refine' callKeys (D := D8) ?K ?F ?N ?_; (case K => exact map58 (by k_asm)); (case F => k_asm); (case N => k_asm)); intro v9 h9 F9 N9 l9; (try k_lt l9); (try k_sweep)))
local macro_rules | `(tactic| walk_at "call type:list") => `(tactic| ((with_reducible show wpAny _ _ (call (Value.type _) [Value.ref _]) _ _ _); k_dflt (first | (refine' listKeys (a := 57) ?K ?hh ?F ?N ?hv ?_; (case K => exact map57 (by k_asm)); (case hh => exact rfl); (case F => k_asm); (case N => k_asm); (case hv => k_mem)) | (refine' listKeys (a := 58) ?K ?hh ?F ?N ?hv ?_; (case K => exact map58 (by k_asm)); (case hh => exact rfl); (case F => k_asm); (case N => k_asm); (case hv => k_mem))); intro B9 c9 h9 tk9 t91 t92 t93 t94 t95 t96 t97 t98 F9 N9 l9; (try k_lt l9); (try k_sweep)))
local macro_rules | `(tactic| walk_at "binaryOp Mod str ref") => `(tactic| (k_dflt (first | (refine' modL (Y := F1) ?e meetsL ?hg ?hu ?F ?N ?hB ?_; (case e => decide +kernel); (case hg => exact rfl); (case hu => ((show _ < 9900); ktr_unf)); (case F => k_asm); (case N => k_asm); (case hB => k_mem)) | (refine' modL (Y := F2) ?e meetsL2 ?hg ?hu ?F ?N ?hB ?_; (case e => decide +kernel); (case hg => exact rfl); (case hu => ((show _ < 9900); ktr_unf)); (case F => k_asm); (case N => k_asm); (case hB => k_mem))); intro h9 tk9 T9 u9 F9 N9; (try k_sweep)))
local macro_rules | `(tactic| walk_at "leaving ref") => `(tactic| (first
  | (refine' leave_raiseS ?k1 ?k0 ?k2 ?k3 ?_; (case k0 => first | assumption | exact Heap.MadeExc.of (by assumption)); (case k2 => assumption); (case k1 => assumption); (case k3 => k_asm); k_whole; intro h' t' S' R' U'; (try dsimp only at S' R' U' ⊢))
  | (refine' leave_onS ?k1 ?k2 ?k3 ?k4 ?_; (case k3 => assumption); (case k2 => assumption); (case k1 => assumption); (case k4 => assumption); k_whole; intro h' S' R' U'; (try dsimp only at S' R' U' ⊢))))

local macro_rules | `(tactic| walk_at "subscriptTail") => `(tactic| ((with_reducible show wpAny _ _ (subscriptTail _ _ (Value.ref (Fx.pool _)) (Value.int ((Fin.val _ : Nat) : Int) _)) _ _ _); k_dflt (refine' item3 (fun j => Value.ref (Fx.loc _ j)) ?N ?m ?_; (case N => k_asm); (case m => k_mem)); (try dsimp only)))
local macro_rules | `(tactic| walk_at "subscriptTail") => `(tactic| ((with_reducible show wpAny _ _ (subscriptTail _ _ (Value.ref (Fx.cells _)) (Value.int ((Fin.val _ : Nat) : Int) _)) _ _ _); k_dflt (refine' item3 (fun j => Value.ref (Fx.c _ j)) ?N ?m ?_; (case N => k_asm); (case m => k_mem)); (try dsimp only)))
local macro_rules | `(tactic| walk_at "subscriptTail") => `(tactic| ((with_reducible show wpAny _ _ (subscriptTail _ _ (Value.ref (Fx.plans _)) (Value.int ((Fin.val _ : Nat) : Int) _)) _ _ _); k_dflt (refine' item2 (fun j => Value.ref (Fx.x _ j)) ?N ?m ?_; (case N => k_asm); (case m => k_mem)); (try dsimp only)))
local macro_rules | `(tactic| walk_at "subscriptTail") => `(tactic| ((with_reducible show wpAny _ _ (subscriptTail _ _ (Value.ref (Fx.picks _)) (Value.int ((Fin.val _ : Nat) : Int) _)) _ _ _); k_dflt (refine' item2 (fun j => Value.ref (Fx.pk _ j)) ?N ?m ?_; (case N => k_asm); (case m => k_mem)); (try dsimp only)))
local macro_rules | `(tactic| walk_at "call builtin:len") => `(tactic| ((with_reducible show wpAny _ _ (call (Value.builtin "len") [Value.ref _]) _ _ _); k_dflt (refine' len_led ?N ?m ?s ?f ?_; (case N => k_asm); (case m => k_mem); (case s => assumption); (case f => assumption)); intro t9 k9))

local macro_rules | `(tactic| k_handed) => `(tactic| exact handed_vO)
local macro_rules | `(tactic| walk_at "eval Name") => `(tactic| (k_dflt (refine' nameX_L ?k1 ?k2 ?_; (case k1 => k_asm); (case k2 => first | assumption | exact rfl | ((simp (decide := true) only [↓reduceIte]); assumption)))))
local macro_rules | `(tactic| walk_at "pyIter ref") => `(tactic| refine Stop.mk ?_)
local macro_rules | `(tactic| walk_at "call ref") => `(tactic| ((with_reducible show wpAny _ _ (call (Value.ref 318) _ _) _ _ _); refine Stop.mk ?_))
section
variable {w : World} {A₀ : Around} {s : Shared} {base h₀ : Heap} {L : Addr} {m : Str → Option Value} {mean : ExcName → Option Value} {mg mb : Str → Option Value}
  {E : Value → Shared → Prop} {Q : Flow → Shared → Prop} {dp un : Nat} {cn : Str} {a : Addr} {ccd : Value}
theorem bloop_ok {f : Fx} {v : Sv} {R : List (Addr × Obj)} {oA : Addr} (B : Below A₀ base [] h₀) (F : Fr h₀ L s.heap m) (X : (hd.heap_39 w.params).In h₀) (T : Top hd.view_39 LO mean mg mb h₀) (XTB : BaseOk w mean mg mb base)
   (hdp : dp + 100 < 1000) (hun : un + 1000 < 9900) (hE : PassesOwn (model PySem.Challenge.rw_eh5030_01.row.prog w) (ktrTop dp un (some []) cn lawSc L a ccd [] []) (envOf cn lawSc L a ccd) E)
   (N : News h₀ L s.heap (Wd w f v ++ R)) (I : Inv f v) (hm : LawM f oA m)
   (hQ : ∀ (h' : Heap) (tk' : Nat) (m' : Str → Option Value), LawM f oA m' → Fr h₀ L h' m' → News h₀ L h' (Wd w f v ++ R) → Q .next { s with heap := h', toks := tk' }) :
   wpAny (model PySem.Challenge.rw_eh5030_01.row.prog w) (ktrTop dp un (some []) cn lawSc L a ccd [] []) (exec (stAt lawB 8) (envOf cn lawSc L a ccd)) Q E s := by
  revert hE
  conv =>
    pattern (occs := *) (stAt _ _)
    all_goals whnf
  conv =>
    pattern (occs := *) lawSc
    all_goals whnf
  intro hE
  refine For_invV h₀ rfl rfl ?_ (fun _ => rfl) hE
  clear hE
  k_steps
  refine Stop.of ?_
  refine' forRange (L := L) (n := 2) ?hL ?hh ?hr ?hsm ?hn ?F ?N (fun _ m' news' => LawM f oA m' ∧ news' = Wd w f v ++ R) ?h0 ?step ?done
  case hL => rfl
  case hh => rfl
  case hr => assumption
  case hsm => decide
  case hn => rfl
  case F => assumption
  case N => assumption
  case h0 => exact ⟨hm, rfl⟩
  case done =>
    rintro h₂ tk₂ m₂ news₂ F₂ N₂ ⟨hm₂, rfl⟩
    exact hQ _ _ _ hm₂ F₂ N₂
  case step =>
    rintro i t m₁ news₁ h₂ tk₂ own hi ⟨hm₁, rfl⟩ hof hI hown _ F₂ N₂
    obtain ⟨p1, p2, p3, p4, p5⟩ := id hm₁
    obtain ⟨d, hd⟩ := fin2_n hi
    rw [hd] at F₂
    have N₃ := news_app (news_sub N₂ (fun p hp => List.mem_append_right _ (List.mem_append_left _ (wd_top p hp)))) N₂
    simp only [List.cons_append, List.nil_append] at N₃
    k_steps
    refine Stop.of ?_
    refine' back_ok (f := f) (v := v) (d := d) ?B ?F ?X ?T XTB rfl (by ktr_unf) (by ktr_unf) ?N I ?_
    case B => assumption
    case F => assumption
    case X => assumption
    case T => assumption
    case N => exact news_sub N₂ (fun p hp => List.mem_append_right _ (List.mem_append_left _ hp))
    intro h₄ tk₄ K₄
    have F₄ := K₄.fr
    have N₄ := K₄.news0 N₂
    k_steps
    exact ⟨.inl rfl, _, _, _, _, rfl, F₄, N₄, hof, ⟨by (simp (decide := true) only [↓reduceIte]); exact p1, by (simp (decide := true) only [↓reduceIte]); exact p2, by (simp (decide := true) only [↓reduceIte]); exact p3, by (simp (decide := true) only [↓reduceIte]); exact p4, by (simp (decide := true) only [↓reduceIte]); exact p5⟩, rfl⟩
end
end Mine
namespace Mine
open PySem PySem.Calls PySem.Spec PyProof.Rows.LCg
section
variable {prog : Program} {w : World} {A : Around} {s₁ : Shared} {h₀ : Heap} {L : Addr} {m : Str → Option Value} {env : Env} {elt : Expr} {x : Str} {scope : Scope} {cl : List (Str × Addr)} {news : List (Addr × Obj)}
/-- one turn of a list comprehension that makes a new object -/
def TurnN (h₀ : Heap) (L : Addr) (m : Str → Option Value) (I : Addr) (oI : Obj) (C : Addr) (oC : Obj) (D : Addr) (oD : Obj) (Rn : Value → List (Addr × Obj) → Prop) (s : Shared) (y : Value) (s₂ : Shared) : Prop :=
  ∃ h' tk' nw', s₂ = { s with heap := h', toks := tk' } ∧ Fr h₀ L h' m ∧ News h₀ L h' ((I, oI) :: (C, oC) :: (D, oD) :: nw') ∧ Off3 I C D nw' ∧ Rn y nw'
theorem compRest_grow {s : Shared} {S : List (Addr × Obj) → Prop} {P : Nat → Value → Prop} {Fin : List Value → List (Addr × Obj) → Prop} {n : Nat} (R : Nat → List Value → List (Addr × Obj) → Prop) (hS : ∀ i ys nw, R i ys nw → S nw)
    (turn : ∀ (i : Nat) (v : Value) (ys : List Value) (nw : List (Addr × Obj)) (I : Addr) (oI : Obj) (C : Addr) (oC : Obj) (D : Addr) (m₂ : Str → Option Value) (h : Heap) (tk : Nat) (E' : Value → Shared → Prop), P i v → R i ys nw → NsObj oC m₂ → m₂ x = some v → Fr h₀ L h m →
      News h₀ L h ((I, oI) :: (C, oC) :: (D, lst ys) :: nw) → Off3 I C D nw → wpAny (model prog w) A (eval elt (compEnvC scope cl C env)) (TurnN h₀ L m I oI C oC D (lst ys) (fun y nw' => R (i + 1) (ys ++ [y]) nw') s) E' { s with heap := h, toks := tk })
    (fin : ∀ ys nw, R n ys nw → Fin ys nw) : ∀ (k i : Nat) (ys : List Value) (nw : List (Addr × Obj)), i + k = n → R i ys nw → CompRest prog w A h₀ L m env elt x scope cl s S P Fin k i ys nw
  | 0, i, ys, nw, hi, hR => CompRest.zero (fin ys nw (by rw [← show i = n from hi]; exact hR))
  | k + 1, i, ys, nw, hi, hR => CompRest.succ fun v I oI C oC D m₂ h tk E' hP hC hx F N off _ =>
    wpAny_mono (turn i v ys nw I oI C oC D m₂ h tk E' hP hR hC hx F N off) (fun y s₂ h₂ => by
      obtain ⟨h', tk', nw', rfl, F', N', off', hy⟩ := h₂
      exact ⟨h', tk', nw', rfl, F', N', off', hS _ _ _ hy, compRest_grow R hS turn fin k (i + 1) (ys ++ [y]) nw' (by omega) hy⟩) fun _ _ e => e
theorem compSrc_grow {Fin : Shared → List Value → List (Addr × Obj) → Prop} {ax : Addr} {its : Array Value} {k : Nat} (hh : A.handled = none) (F : Fr h₀ L s₁.heap m) (N : News h₀ L s₁.heap news) (hm : (ax, listOf its k) ∈ news) (hsz : its.size < 100000)
    (R : Nat → List Value → List (Addr × Obj) → Prop) (h0 : R 0 [] news) (keep : ∀ i ys nw, R i ys nw → (ax, listOf its k) ∈ nw)
    (turn : ∀ (i : Nat) (v : Value) (ys : List Value) (nw : List (Addr × Obj)) (I : Addr) (oI : Obj) (C : Addr) (oC : Obj) (D : Addr) (m₂ : Str → Option Value) (h : Heap) (tk : Nat) (E' : Value → Shared → Prop), its[i]? = some v → R i ys nw → NsObj oC m₂ → m₂ x = some v → Fr h₀ L h m →
      News h₀ L h ((I, oI) :: (C, oC) :: (D, lst ys) :: nw) → Off3 I C D nw → wpAny (model prog w) A (eval elt (compEnvC scope cl C env)) (TurnN h₀ L m I oI C oC D (lst ys) (fun y nw' => R (i + 1) (ys ++ [y]) nw') s₁) E' { s₁ with heap := h, toks := tk })
    (fin : ∀ g ys nw, R its.size ys nw → Fin { s₁ with heap := g } ys nw) : CompSrc prog w A h₀ L m env elt x scope cl Fin (.ref ax) s₁ :=
  CompSrc.ledger hh F N hm (by rw [sizeLine_eq]; omega) fun g => compRest_grow (s := { s₁ with heap := g }) R (fun i ys nw hR => Or.inr ⟨_, keep i ys nw hR, rfl, _, rfl⟩) (fun i v ys nw I oI C oC D m₂ h tk E' hv hR hC hx F' N' off => turn i v ys nw I oI C oC D m₂ h tk E' hv hR hC hx F' N' off) (fun ys nw hR => fin g ys nw hR) _ _ _ _ (Nat.zero_add _) h0
end
end Mine
namespace Mine
open PySem PySem.Calls PySem.Spec PyProof.Rows.LCg
theorem rs_Y6 : True := by w_top off; trivial
local macro_rules | `(tactic| ktr_enter) => `(tactic| (
  refine' enterK ?k1 ?k2 ?k3 ?k4 ?k5 ?kA ?kF ?kK ?k6 ?k7 ?k8 ?k9 ?kB ?_ ?c5 ?c2 ?c3 ?c4;
  (case kA => exact rfl); (case kF => exact rfl); (case kK => first | assumption | exact rfl); (case k1 => assumption); (case k2 => assumption); (case k3 => assumption); (case k4 => assumption); (case k5 => assumption);
  (case k6 => k_is); (case k7 => k_is); (case k8 => first | (simp only [recursionLimit]; omega) | ktr_room); (case k9 => first | exact BindsTo.of_eq rfl | exact binds_K (by k_in) rfl (by k_is) rfl rfl rfl); (case c5 => decide); (case kB => exact locs rfl); (case c2 => exact rfl); (case c3 => exact rfl); (case c4 => exact rfl)))
local macro_rules | `(tactic| walk_at "subscriptTail") => `(tactic| ((with_reducible show wpAny _ _ (subscriptTail _ _ (Value.ref 58) (Value.int _ _)) _ _ _); k_dflt (refine' item58 ?F ?X ?h ?_; (case F => k_asm); (case X => k_asm); (case h => assumption)); intro t'))
local macro_rules | `(tactic| walk_at "subscriptTail") => `(tactic| ((with_reducible show wpAny _ _ (subscriptTail _ _ (Value.ref 57) (Value.int _ _)) _ _ _); k_dflt (refine' item57 ?F ?X ?h ?_; (case F => k_asm); (case X => k_asm); (case h => assumption)); intro t'))
local macro_rules | `(tactic| walk_at "compareOp NotIn int ref") => `(tactic| ((with_reducible show wpAny _ _ (compareOp CmpOp.NotIn (Value.int _ _) (Value.ref 58)) _ _ _); k_dflt (refine' notin58 ?F ?X ?_; (case F => k_asm); (case X => k_asm))))
local macro_rules | `(tactic| walk_at "compareOp NotIn int ref") => `(tactic| ((with_reducible show wpAny _ _ (compareOp CmpOp.NotIn (Value.int _ _) (Value.ref 57)) _ _ _); k_dflt (refine' notin57 ?F ?X ?_; (case F => k_asm); (case X => k_asm))))
local macro_rules | `(tactic| walk_at "binaryOp LShift int int") => `(tactic| (refine lshift_int_small (by decide) (by decide) (by omega) ?_))
local macro_rules | `(tactic| walk_at "call builtin:_struct.pack") => `(tactic| ((with_reducible show wpAny _ _ (call (Value.builtin _) [Value.str _ _, Value.int _ _]) _ _ _); k_dflt (first | (refine' pack_B ?h0 ?h1 ?_; (case h0 => omega); (case h1 => omega)) | (refine' pack_q ?h0 ?h1 ?_; (case h0 => omega); (case h1 => omega))); intro t'))
local macro_rules | `(tactic| ktr_rel) => `(tactic| exact back_led (by assumption) (by assumption) (by assumption) (by assumption) (by assumption) (fun p hp => .inr hp))
local macro_rules | `(tactic| ktr_unf) => `(tactic| first | omega | ((try dsimp only [Around.deeper, Around.in1, Around.mark]); (try simp only [dU, uU]); (try dsimp only [ktrTop, Around.deeper, Around.in1, Around.mark]); omega))
local macro_rules | `(tactic| k_enter) => `(tactic| (ktr_enter; intro g' L' h' kg' lL' FG' F' N' B' X' T'; (try dsimp only); (try k_fold)))
local macro_rules | `(tactic| walk_at "call ref") => `(tactic| (k_here; k_dflt (refine' call_clsK ?k1 ?k2 ?k3 ?k4 ?k5 ?k6 ?_; (case k1 => k_asm); (case k2 => k_asm); (case k3 => k_asm); (case k4 => k_is); (case k5 => k_is); (case k6 => k_is); k_whole; intro x' d' h' x1 l1 l2 F' N'; (try ((have l9 := news_lt (by assumption) l1); (k_lt l9))); (try k_lt2 l1); (try k_lt2 l2); (try k_sweep); k_enter)))

local macro_rules | `(tactic| walk_at "getMethod ref") => `(tactic| ((with_reducible show wpAny _ _ (getMethod (Value.ref 57) (Str.ofString "keys") _) _ _ _); k_dflt (refine' getKeys (D := D8) ?K ?F ?_; (case K => exact map57 (by k_asm)); (case F => k_asm))))
local macro_rules | `(tactic| walk_at "getMethod ref") => `(tactic| ((with_reducible show wpAny _ _ (getMethod (Value.ref 58) (Str.ofString "keys") _) _ _ _); k_dflt (refine' getKeys (D := D8) ?K ?F ?_; (case K => exact map58 (by k_asm)); (case F => k_asm))))
local macro_rules | `(tactic| walk_at "call builtin:dict.keys") => `(tactic| ((with_reducible show wpAny _ _ (call (Value.builtin "dict.keys") [Value.ref 57]) _ _ _); k_dflt (refine' callKeys (D := D8) ?K ?F ?N ?_; (case K => exact map57 (by k_asm)); (case F => k_asm); (case N => k_asm)); intro v9 h9 F9 N9 l9; (try k_lt l9); (try k_sweep)))
local macro_rules | `(tactic| walk_at "call builtin:dict.keys") => `(tactic| ((with_reducible show wpAny _ _ (call (Value.builtin "dict.keys") [Value.ref 58]) _ _ _); k_dflt (refine' callKeys (D := D8) ?K ?F ?N ?_; (case K => exact map58 (by k_asm)); (case F => k_asm); (case N => k_asm)); intro v9 h9 F9 N9 l9; (try k_lt l9); (try k_sweep)))
local macro_rules | `(tactic| walk_at "call type:list") => `(tactic| ((with_reducible show wpAny _ _ (call (Value.type _) [Value.ref _]) _ _ _); k_dflt (first | (refine' listKeys (a := 57) ?K ?hh ?F ?N ?hv ?_; (case K => exact map57 (by k_asm)); (case hh => exact rfl); (case F => k_asm); (case N => k_asm); (case hv => k_mem)) | (refine' listKeys (a := 58) ?K ?hh ?F ?N ?hv ?_; (case K => exact map58 (by k_asm)); (case hh => exact rfl); (case F => k_asm); (case N => k_asm); (case hv => k_mem))); intro B9 c9 h9 tk9 t91 t92 t93 t94 t95 t96 t97 t98 F9 N9 l9; (try k_lt l9); (try k_sweep)))
local macro_rules | `(tactic| walk_at "binaryOp Mod str ref") => `(tactic| (k_dflt (first | (refine' modL (Y := F1) ?e meetsL ?hg ?hu ?F ?N ?hB ?_; (case e => decide +kernel); (case hg => exact rfl); (case hu => ((show _ < 9900); ktr_unf)); (case F => k_asm); (case N => k_asm); (case hB => k_mem)) | (refine' modL (Y := F2) ?e meetsL2 ?hg ?hu ?F ?N ?hB ?_; (case e => decide +kernel); (case hg => exact rfl); (case hu => ((show _ < 9900); ktr_unf)); (case F => k_asm); (case N => k_asm); (case hB => k_mem))); intro h9 tk9 T9 u9 F9 N9; (try k_sweep)))
local macro_rules | `(tactic| walk_at "leaving ref") => `(tactic| (first
  | (refine' leave_raiseS ?k1 ?k0 ?k2 ?k3 ?_; (case k0 => first | assumption | exact Heap.MadeExc.of (by assumption)); (case k2 => assumption); (case k1 => assumption); (case k3 => k_asm); k_whole; intro h' t' S' R' U'; (try dsimp only at S' R' U' ⊢))
  | (refine' leave_onS ?k1 ?k2 ?k3 ?k4 ?_; (case k3 => assumption); (case k2 => assumption); (case k1 => assumption); (case k4 => assumption); k_whole; intro h' S' R' U'; (try dsimp only at S' R' U' ⊢))))

local macro_rules | `(tactic| walk_at "subscriptTail") => `(tactic| ((with_reducible show wpAny _ _ (subscriptTail _ _ (Value.ref (Fx.pool _)) (Value.int ((Fin.val _ : Nat) : Int) _)) _ _ _); k_dflt (refine' item3 (fun j => Value.ref (Fx.loc _ j)) ?N ?m ?_; (case N => k_asm); (case m => k_mem)); (try dsimp only)))
local macro_rules | `(tactic| walk_at "subscriptTail") => `(tactic| ((with_reducible show wpAny _ _ (subscriptTail _ _ (Value.ref (Fx.cells _)) (Value.int ((Fin.val _ : Nat) : Int) _)) _ _ _); k_dflt (refine' item3 (fun j => Value.ref (Fx.c _ j)) ?N ?m ?_; (case N => k_asm); (case m => k_mem)); (try dsimp only)))
local macro_rules | `(tactic| walk_at "subscriptTail") => `(tactic| ((with_reducible show wpAny _ _ (subscriptTail _ _ (Value.ref (Fx.plans _)) (Value.int ((Fin.val _ : Nat) : Int) _)) _ _ _); k_dflt (refine' item2 (fun j => Value.ref (Fx.x _ j)) ?N ?m ?_; (case N => k_asm); (case m => k_mem)); (try dsimp only)))
local macro_rules | `(tactic| walk_at "subscriptTail") => `(tactic| ((with_reducible show wpAny _ _ (subscriptTail _ _ (Value.ref (Fx.picks _)) (Value.int ((Fin.val _ : Nat) : Int) _)) _ _ _); k_dflt (refine' item2 (fun j => Value.ref (Fx.pk _ j)) ?N ?m ?_; (case N => k_asm); (case m => k_mem)); (try dsimp only)))
local macro_rules | `(tactic| walk_at "call builtin:len") => `(tactic| ((with_reducible show wpAny _ _ (call (Value.builtin "len") [Value.ref _]) _ _ _); k_dflt (refine' len_led ?N ?m ?s ?f ?_; (case N => k_asm); (case m => k_mem); (case s => assumption); (case f => assumption)); intro t9 k9))

local macro_rules | `(tactic| k_handed) => `(tactic| exact handed_vO)
local macro_rules | `(tactic| walk_at "eval Name") => `(tactic| (k_dflt (refine' nameX_L ?k1 ?k2 ?_; (case k1 => k_asm); (case k2 => first | assumption | exact rfl | ((simp (decide := true) only [↓reduceIte]); assumption)))))
local macro_rules | `(tactic| walk_at "CompSrc") => `(tactic| refine Stop.mk ?_)
local macro_rules | `(tactic| walk_at "TurnN") => `(tactic| refine Stop.mk ?_)
def RowO (f : Fx) (lo hi : Fin 3 → Option Int) (j : Fin 3) (o : Obj) : Prop := ∃ (t1 t2 t3 t4 : Tok) (n : Nat), o = listOf #[.int (f.ad j) t1, .int (f.sz j) t2, vO (lo j) t3, vO (hi j) t4] n
def Rows3 (f : Fx) (lo hi : Fin 3 → Option Int) (i : Nat) (ys : List Value) (nw : List (Addr × Obj)) : Prop := ys.length = i ∧ ∀ (k : Nat) (y : Value), ys[k]? = some y → ∃ (j : Fin 3) (a : Addr) (o : Obj), j.val = k ∧ y = .ref a ∧ (a, o) ∈ nw ∧ RowO f lo hi j o
theorem Rows3.nil {f : Fx} {lo hi : Fin 3 → Option Int} {nw : List (Addr × Obj)} : Rows3 f lo hi 0 [] nw := ⟨rfl, fun k y h => by cases h⟩
theorem Rows3.sub {f : Fx} {lo hi : Fin 3 → Option Int} {i : Nat} {ys : List Value} {nw nw' : List (Addr × Obj)} (h : Rows3 f lo hi i ys nw) (x : ∀ p ∈ nw, p ∈ nw') : Rows3 f lo hi i ys nw' :=
  ⟨h.1, fun k y e => by obtain ⟨j, a, o, h1, h2, h3, h4⟩ := h.2 k y e; exact ⟨j, a, o, h1, h2, x _ h3, h4⟩⟩
theorem Rows3.snoc {f : Fx} {lo hi : Fin 3 → Option Int} {ys : List Value} {nw : List (Addr × Obj)} {j : Fin 3} {a : Addr} {o : Obj} (h : Rows3 f lo hi j.val ys nw) (ho : RowO f lo hi j o) : Rows3 f lo hi (j.val + 1) (ys ++ [.ref a]) ((a, o) :: nw) := by
  refine ⟨by rw [List.length_append, h.1]; rfl, fun k y e => ?_⟩
  by_cases hk : k < ys.length
  · rw [List.getElem?_append_left hk] at e
    obtain ⟨j', a', o', h1, h2, h3, h4⟩ := h.2 k y e
    exact ⟨j', a', o', h1, h2, .tail _ h3, h4⟩
  · have hk' : k = ys.length := by
      have := (List.getElem?_eq_some_iff.mp e).1
      rw [List.length_append, List.length_singleton] at this
      omega
    subst hk'
    rw [List.getElem?_append_right (Nat.le_refl _), Nat.sub_self] at e
    cases e
    exact ⟨j, a, o, h.1.symm, rfl, .head _, ho⟩
abbrev dO (x : Option Int) : PyData := match x with
  | none => .none
  | some i => .int i
theorem reads_vO {h : Heap} (x : Option Int) (t : Tok) : Reads h (vO x t) (dO x) [] := by
  cases x with
  | none => exact Reads.none
  | some i => exact Reads.int _ _
abbrev rowD (f : Fx) (lo hi : Fin 3 → Option Int) (j : Fin 3) : PyData := .list [.int (f.ad j), .int (f.sz j), dO (lo j), dO (hi j)]
theorem row_reads {f : Fx} {lo hi : Fin 3 → Option Int} {j : Fin 3} {a : Addr} {o : Obj} {h : Heap} (ha : h.get? a = some o) (ho : RowO f lo hi j o) : ∃ as, Reads h (.ref a) (rowD f lo hi j) as := by
  obtain ⟨t1, t2, t3, t4, n, rfl⟩ := ho
  exact ⟨_, reads_list_at ha rfl rfl (.cons (Reads.int _ _) (.cons (Reads.int _ _) (.cons (reads_vO _ _) (.cons (reads_vO _ _) .nil))))⟩
theorem rows_reads {f : Fx} {lo hi : Fin 3 → Option Int} {D : Addr} {ys : List Value} {g h : Heap} {L : Addr} {nw : List (Addr × Obj)} (H : Rows3 f lo hi 3 ys nw) (N : News g L h nw) (hD : h.get? D = some (lst ys)) :
    ∃ as, Reads h (.ref D) (.list [rowD f lo hi 0, rowD f lo hi 1, rowD f lo hi 2]) as := by
  obtain ⟨hl, H⟩ := H
  match ys, hl with
  | [y0, y1, y2], _ =>
    have key : ∀ (j : Fin 3) (y : Value), [y0, y1, y2][j.val]? = some y → ∃ as, Reads h y (rowD f lo hi j) as := fun j y e => by
      obtain ⟨j', a, o, h1, rfl, h3, h4⟩ := H _ _ e
      obtain rfl : j' = j := Fin.ext h1
      exact row_reads (N _ h3).1 h4
    obtain ⟨a0, r0⟩ := key 0 y0 rfl
    obtain ⟨a1, r1⟩ := key 1 y1 rfl
    obtain ⟨a2, r2⟩ := key 2 y2 rfl
    exact ⟨_, reads_list_at hD rfl rfl (.cons r0 (.cons r1 (.cons r2 .nil)))⟩
theorem eqv_dO (x : Option Int) : PyData.eqv (dO x) (dO x) = true := by
  cases x with
  | none => rfl
  | some i => simp [PyData.eqv]
theorem eqv_row (f : Fx) (lo hi : Fin 3 → Option Int) (j : Fin 3) : PyData.eqv (rowD f lo hi j) (rowD f lo hi j) = true := by
  simp only [PyData.eqv, PyData.eqvAll, eqv_dO, beq_self_eq_true, Bool.and_self]
theorem eqv_rows (f : Fx) (lo hi : Fin 3 → Option Int) : PyData.eqv (.list [rowD f lo hi 0, rowD f lo hi 1, rowD f lo hi 2]) (.list [rowD f lo hi 0, rowD f lo hi 1, rowD f lo hi 2]) = true := by
  show PyData.eqvAll _ _ = true
  rw [PyData.eqvAll, PyData.eqvAll, PyData.eqvAll, PyData.eqvAll, eqv_row, eqv_row, eqv_row]; rfl
theorem lay_dO (x : Option Int) : (dO x).canLay0 = true := by cases x <;> rfl
theorem dep_dO (x : Option Int) : (dO x).depth ≤ 1 := by cases x <;> simp [PyData.depth]
theorem shaped_rows (f : Fx) (lo hi : Fin 3 → Option Int) : SeqAt.shaped (.list [rowD f lo hi 0, rowD f lo hi 1, rowD f lo hi 2]) = true := by
  refine Bool.and_eq_true_iff.mpr ⟨?_, decide_eq_true ?_⟩
  · simp only [PyData.canLay0, PyData.canLayAll0, lay_dO, Bool.and_self]
  · have h := fun j => dep_dO (lo j)
    have h' := fun j => dep_dO (hi j)
    have := h 0; have := h 1; have := h 2; have := h' 0; have := h' 1; have := h' 2
    simp only [PyData.depth, PyData.depthAll]
    omega
theorem get3 {g : Fin 3 → Addr} {i : Nat} {v : Value} (h : (#[.ref (g 0), .ref (g 1), .ref (g 2)] : Array Value)[i]? = some v) : ∃ j : Fin 3, i = j.val ∧ v = .ref (g j) := by
  match i, h with
  | 0, h => cases h; exact ⟨0, rfl, rfl⟩
  | 1, h => cases h; exact ⟨1, rfl, rfl⟩
  | 2, h => cases h; exact ⟨2, rfl, rfl⟩
  | k + 3, h => simp at h
section
variable {prog : Program} {w : World} {A : Around} {E : Value → Shared → Prop} {s : Shared} {h₀ : Heap} {L l : Addr} {m : Str → Option Value} {news : List (Addr × Obj)} {value slice : Expr} {Q : Value → Shared → Prop}
theorem cell_cut {v1 v2 v3 v4 v5 v6 : Value} {n : Nat} {t : Tok} (F : Fr h₀ L s.heap m) (N : News h₀ L s.heap news) (hl : (l, listOf [v1, v2, v3, v4, v5, v6].toArray n) ∈ news)
    (h : ∀ D h', Fr h₀ L h' m → News h₀ L h' ((D, listOf #[v1, v2, v3, v4] 0) :: news) → (∀ p ∈ news, @LT.lt Nat _ p.1 D) → Q (.ref D) { s with heap := h' })
    (hs : subscripted slice false (.ref l) (.ref s.heap.objs.size) = operate [.ref s.heap.objs.size, .ref l] (getItem (.ref l) (.ref s.heap.objs.size))) (ht : ∀ r, letTemporaryGo value (.ref l) r = pure ()) :
    wpAny (model prog w) A (subscriptTail value slice (.ref l) (.ref s.heap.objs.size)) Q E { s with heap := s.heap.push { cls := .type "slice", data := .fields #[.none, .int 4 t, .none] } } :=
  kmk_slice_lit (lo := none) (hi := some 4) (zs := [v1, v2, v3, v4]) F N (N.isList hl) (by constructor) (by constructor) rfl (fun D h' F' N' l' => h D h' F' N' l') hs ht (Nat.le_of_ble_eq_true rfl)
end
local macro_rules | `(tactic| walk_at "subscriptTail") => `(tactic| ((with_reducible show wpAny _ _ (subscriptTail _ (PySem.Expr.Slice _ _ none _) (Value.ref _) (Value.ref _)) _ _ _); k_dflt (refine' cell_cut ?F ?N ?m ?_ ?s ?t; (case F => k_asm); (case N => k_asm); (case m => k_mem); (case s => with_unfolding_all rfl); (case t => kmk_pure)); intro D' h' F' N' l1; (try k_lt l1); (try k_sweep)))
local macro_rules | `(tactic| walk_at "subscriptTail Name Slice ref ref") => `(tactic| ((with_reducible show wpAny _ _ (subscriptTail _ (PySem.Expr.Slice _ _ none _) (Value.ref _) (Value.ref _)) _ _ _); k_dflt (refine' cell_cut ?F ?N ?m ?_ ?s ?t; (case F => k_asm); (case N => k_asm); (case m => k_mem); (case s => with_unfolding_all rfl); (case t => kmk_pure)); intro D' h' F' N' l1; (try k_lt l1); (try k_sweep)))
section
variable {w : World} {A₀ : Around} {s : Shared} {base h₀ : Heap} {L : Addr} {m : Str → Option Value} {mean : ExcName → Option Value} {mg mb : Str → Option Value}
  {E : Value → Shared → Prop} {Q : Flow → Shared → Prop} {dp un : Nat} {cn : Str} {a : Addr} {ccd : Value}
theorem ret_ok {f : Fx} {v : Sv} {R : List (Addr × Obj)} {oA : Addr} (B : Below A₀ base [] h₀) (F : Fr h₀ L s.heap m) (X : (hd.heap_39 w.params).In h₀) (T : Top hd.view_39 LO mean mg mb h₀)
   (hdp : dp + 100 < 1000) (hun : un + 1000 < 9900) (O : FxOk f) (N : News h₀ L s.heap (Wd w f v ++ R)) (I : Inv f v) (hm : LawM f oA m)
   (hQ : ∀ (h' : Heap) (tk' : Nat) (m' : Str → Option Value), Fr h₀ L h' m' → Q (.ret (.bool true)) { s with heap := h', toks := tk' }) :
   wpAny (model PySem.Challenge.rw_eh5030_01.row.prog w) (ktrTop dp un (some []) cn lawSc L a ccd [] []) (exec (stAt lawB 9) (envOf cn lawSc L a ccd)) Q E s := by
  conv =>
    pattern (occs := *) (stAt _ _)
    all_goals whnf
  conv =>
    pattern (occs := *) lawSc
    all_goals whnf
  obtain ⟨p1, p2, p3, p4, p5⟩ := id hm
  have NW := fst_app N
  have N₀ := news_app (news2 NW (wd_top _ (.head _)) (wd_top _ (.tail _ (.head _)))) NW
  simp only [List.cons_append, List.nil_append] at N₀
  clear N
  k_steps
  refine Stop.of ?_
  refine' compSrc_grow ?hh ?F ?N ?hm ?hsz (fun i ys nw => (∀ p ∈ Wd w f v, p ∈ nw) ∧ Rows3 f (fun j => (v.lv j).low) (fun j => (v.lv j).high) i ys nw) ?h0 ?keep ?turn ?fin
  case hh => rfl
  case F => assumption
  case N => exact NW
  case hm => exact wd_top _ (.head _)
  case hsz => exact Nat.le_of_ble_eq_true rfl
  case h0 => exact ⟨fun p hp => hp, Rows3.nil⟩
  case keep => exact fun i ys nw h => h.1 _ (wd_top _ (.head _))
  case turn =>
    rintro i x ys nw I' oI C oC D' m₂ h₃ tk₃ E' hx ⟨hb, hR⟩ hC hm₂ F₃ N₃ off
    obtain ⟨j, rfl, rfl⟩ := get3 hx
    have N₄ := news_app (news_sub N₃ (fun p hp => .tail _ (.tail _ (.tail _ (hb p (wd_lc j p hp)))))) N₃
    simp only [List.cons_append, List.nil_append] at N₄
    k_steps
    refine Stop.of ?_
    refine ⟨_, _, _, rfl, by assumption, ?_, ?_, ?_, Rows3.snoc hR ⟨f.ta j, f.ts j, (v.lv j).tl, (v.lv j).th, 0, rfl⟩⟩
    · exact news_sub (by assumption) (List.forall_mem_cons.mpr ⟨by k_mem, List.forall_mem_cons.mpr ⟨by k_mem, List.forall_mem_cons.mpr ⟨by k_mem, List.forall_mem_cons.mpr ⟨by k_mem, fun p hp => .tail _ (List.mem_append_right (_ :: _ :: _ :: _ :: _ :: _ :: _ :: []) hp)⟩⟩⟩⟩)
    · refine ⟨⟨?_, ?_, ?_⟩, off⟩ <;> ((show @Ne Nat _ _); dsimp only; omega)
    · exact fun p hp => .tail _ (hb p hp)
  case fin =>
    rintro g₃ ys nw ⟨hb, hR⟩
    k_steps
    refine Stop.of ?_
    rename_i D₁ h₄ tk₄ F₄ N₄ o₄
    refine' compSrc_grow ?hh2 ?F2 ?N2 ?hm2 ?hsz2 (fun i ys2 nw2 => (∀ p ∈ (D₁, lst ys) :: nw, p ∈ nw2) ∧ Rows3 f (fun j => (v.cv j).low) (fun j => (v.cv j).high) i ys2 nw2) ?h02 ?keep2 ?turn2 ?fin2
    case hh2 => rfl
    case F2 => exact F₄
    case N2 => exact N₄
    case hm2 => exact .tail _ (hb _ (wd_top _ (.tail _ (.head _))))
    case hsz2 => exact Nat.le_of_ble_eq_true rfl
    case h02 => exact ⟨fun p hp => hp, Rows3.nil⟩
    case keep2 => exact fun i ys nw h => h.1 _ (.tail _ (hb _ (wd_top _ (.tail _ (.head _)))))
    case turn2 =>
      rintro i x ys2 nw2 I' oI C oC D' m₂ h₅ tk₅ E' hx ⟨hb2, hR2⟩ hC hm₂ F₅ N₅ off
      obtain ⟨j, rfl, rfl⟩ := get3 hx
      have N₆ := news_app (news1 (a := cellN f v j) N₅ (.tail _ (.tail _ (.tail _ (hb2 _ (.tail _ (hb _ (wd_cell j)))))))) N₅
      simp only [List.cons_append, List.nil_append] at N₆
      k_steps
      refine Stop.of ?_
      refine ⟨_, _, _, rfl, by assumption, ?_, ?_, ?_, Rows3.snoc hR2 ⟨f.ca j, f.cs j, (v.cv j).tl, (v.cv j).th, 0, rfl⟩⟩
      · exact news_sub (by assumption) (List.forall_mem_cons.mpr ⟨by k_mem, List.forall_mem_cons.mpr ⟨by k_mem, List.forall_mem_cons.mpr ⟨by k_mem, List.forall_mem_cons.mpr ⟨by k_mem, fun p hp => .tail _ (List.mem_append_right (_ :: _ :: _ :: _ :: []) hp)⟩⟩⟩⟩)
      · refine ⟨⟨?_, ?_, ?_⟩, off⟩ <;> ((show @Ne Nat _ _); dsimp only; omega)
      · exact fun p hp => .tail _ (hb2 p hp)
    case fin2 =>
      rintro g₅ ys2 nw2 ⟨hb2, hR2⟩
      k_steps
      rename_i D₂ h₆ tk₆ F₆ N₆ o₆
      rw [show (fun j => (v.cv j).low) = (fun j => (v.lv j).low) from funext I.low, show (fun j => (v.cv j).high) = (fun j => (v.lv j).high) from funext I.high] at hR2
      have hA : Rows3 f (fun j => (v.lv j).low) (fun j => (v.lv j).high) 3 ys ((D₂, lst ys2) :: nw2) := Rows3.sub hR (fun p hp => .tail _ (hb2 p (.tail _ hp)))
      have hB : Rows3 f (fun j => (v.lv j).low) (fun j => (v.lv j).high) 3 ys2 ((D₂, lst ys2) :: nw2) := Rows3.sub hR2 (fun p hp => .tail _ hp)
      obtain ⟨as1, r1⟩ := rows_reads hA N₆ (D := D₁) (N₆ _ (.tail _ (hb2 _ (.head _)))).1
      obtain ⟨as2, r2⟩ := rows_reads hB N₆ (D := D₂) (N₆ _ (.head _)).1
      refine eq_dataH r1 r2 (shaped_rows _ _ _) (shaped_rows _ _ _) ?_ ?_
      · show _ < 9900
        ktr_unf
      · rw [eqv_rows]
        exact hQ _ _ _ F₆
end
end Mine
namespace Mine
open PySem PySem.Calls PySem.Spec
theorem rs_Y7 : True := by w_top off; trivial
local macro_rules | `(tactic| ktr_enter) => `(tactic| (
  refine' enterK ?k1 ?k2 ?k3 ?k4 ?k5 ?kA ?kF ?kK ?k6 ?k7 ?k8 ?k9 ?kB ?_ ?c5 ?c2 ?c3 ?c4;
  (case kA => exact rfl); (case kF => exact rfl); (case kK => first | assumption | exact rfl); (case k1 => assumption); (case k2 => assumption); (case k3 => assumption); (case k4 => assumption); (case k5 => assumption);
  (case k6 => k_is); (case k7 => k_is); (case k8 => first | (simp only [recursionLimit]; omega) | ktr_room); (case k9 => first | exact BindsTo.of_eq rfl | exact binds_K (by k_in) rfl (by k_is) rfl rfl rfl); (case c5 => decide); (case kB => exact locs rfl); (case c2 => exact rfl); (case c3 => exact rfl); (case c4 => exact rfl)))
local macro_rules | `(tactic| walk_at "subscriptTail") => `(tactic| ((with_reducible show wpAny _ _ (subscriptTail _ _ (Value.ref 58) (Value.int _ _)) _ _ _); k_dflt (refine' item58 ?F ?X ?h ?_; (case F => k_asm); (case X => k_asm); (case h => assumption)); intro t'))
local macro_rules | `(tactic| walk_at "subscriptTail") => `(tactic| ((with_reducible show wpAny _ _ (subscriptTail _ _ (Value.ref 57) (Value.int _ _)) _ _ _); k_dflt (refine' item57 ?F ?X ?h ?_; (case F => k_asm); (case X => k_asm); (case h => assumption)); intro t'))
local macro_rules | `(tactic| walk_at "compareOp NotIn int ref") => `(tactic| ((with_reducible show wpAny _ _ (compareOp CmpOp.NotIn (Value.int _ _) (Value.ref 58)) _ _ _); k_dflt (refine' notin58 ?F ?X ?_; (case F => k_asm); (case X => k_asm))))
local macro_rules | `(tactic| walk_at "compareOp NotIn int ref") => `(tactic| ((with_reducible show wpAny _ _ (compareOp CmpOp.NotIn (Value.int _ _) (Value.ref 57)) _ _ _); k_dflt (refine' notin57 ?F ?X ?_; (case F => k_asm); (case X => k_asm))))
local macro_rules | `(tactic| walk_at "binaryOp LShift int int") => `(tactic| (refine lshift_int_small (by decide) (by decide) (by omega) ?_))
local macro_rules | `(tactic| walk_at "call builtin:_struct.pack") => `(tactic| ((with_reducible show wpAny _ _ (call (Value.builtin _) [Value.str _ _, Value.int _ _]) _ _ _); k_dflt (first | (refine' pack_B ?h0 ?h1 ?_; (case h0 => omega); (case h1 => omega)) | (refine' pack_q ?h0 ?h1 ?_; (case h0 => omega); (case h1 => omega))); intro t'))
local macro_rules | `(tactic| ktr_rel) => `(tactic| exact back_led (by assumption) (by assumption) (by assumption) (by assumption) (by assumption) (fun p hp => .inr hp))
local macro_rules | `(tactic| ktr_unf) => `(tactic| first | omega | ((try dsimp only [Around.deeper, Around.in1, Around.mark]); (try simp only [dU, uU]); (try dsimp only [ktrTop, Around.deeper, Around.in1, Around.mark]); omega))
local macro_rules | `(tactic| k_enter) => `(tactic| (ktr_enter; intro g' L' h' kg' lL' FG' F' N' B' X' T'; (try dsimp only); (try k_fold)))
local macro_rules | `(tactic| walk_at "call ref") => `(tactic| (k_here; k_dflt (refine' call_clsK ?k1 ?k2 ?k3 ?k4 ?k5 ?k6 ?_; (case k1 => k_asm); (case k2 => k_asm); (case k3 => k_asm); (case k4 => k_is); (case k5 => k_is); (case k6 => k_is); k_whole; intro x' d' h' x1 l1 l2 F' N'; (try ((have l9 := news_lt (by assumption) l1); (k_lt l9))); (try k_lt2 l1); (try k_lt2 l2); (try k_sweep); k_enter)))

local macro_rules | `(tactic| walk_at "getMethod ref") => `(tactic| ((with_reducible show wpAny _ _ (getMethod (Value.ref 57) (Str.ofString "keys") _) _ _ _); k_dflt (refine' getKeys (D := D8) ?K ?F ?_; (case K => exact map57 (by k_asm)); (case F => k_asm))))
local macro_rules | `(tactic| walk_at "getMethod ref") => `(tactic| ((with_reducible show wpAny _ _ (getMethod (Value.ref 58) (Str.ofString "keys") _) _ _ _); k_dflt (refine' getKeys (D := D8) ?K ?F ?_; (case K => exact map58 (by k_asm)); (case F => k_asm))))
local macro_rules | `(tactic| walk_at "call builtin:dict.keys") => `(tactic| ((with_reducible show wpAny _ _ (call (Value.builtin "dict.keys") [Value.ref 57]) _ _ _); k_dflt (refine' callKeys (D := D8) ?K ?F ?N ?_; (case K => exact map57 (by k_asm)); (case F => k_asm); (case N => k_asm)); intro v9 h9 F9 N9 l9; (try k_lt l9); (try k_sweep)))
local macro_rules | `(tactic| walk_at "call builtin:dict.keys") => `(tactic| ((with_reducible show wpAny _ _ (call (Value.builtin "dict.keys") [Value.ref 58]) _ _ _); k_dflt (refine' callKeys (D := D8) ?K ?F ?N ?_; (case K => exact map58 (by k_asm)); (case F => k_asm); (case N => k_asm)); intro v9 h9 F9 N9 l9; (try k_lt l9); (try k_sweep)))
local macro_rules | `(tactic| walk_at "call type:list") => `(tactic| ((with_reducible show wpAny _ _ (call (Value.type _) [Value.ref _]) _ _ _); k_dflt (first | (refine' listKeys (a := 57) ?K ?hh ?F ?N ?hv ?_; (case K => exact map57 (by k_asm)); (case hh => exact rfl); (case F => k_asm); (case N => k_asm); (case hv => k_mem)) | (refine' listKeys (a := 58) ?K ?hh ?F ?N ?hv ?_; (case K => exact map58 (by k_asm)); (case hh => exact rfl); (case F => k_asm); (case N => k_asm); (case hv => k_mem))); intro B9 c9 h9 tk9 t91 t92 t93 t94 t95 t96 t97 t98 F9 N9 l9; (try k_lt l9); (try k_sweep)))
local macro_rules | `(tactic| walk_at "binaryOp Mod str ref") => `(tactic| (k_dflt (first | (refine' modL (Y := F1) ?e meetsL ?hg ?hu ?F ?N ?hB ?_; (case e => decide +kernel); (case hg => exact rfl); (case hu => ((show _ < 9900); ktr_unf)); (case F => k_asm); (case N => k_asm); (case hB => k_mem)) | (refine' modL (Y := F2) ?e meetsL2 ?hg ?hu ?F ?N ?hB ?_; (case e => decide +kernel); (case hg => exact rfl); (case hu => ((show _ < 9900); ktr_unf)); (case F => k_asm); (case N => k_asm); (case hB => k_mem))); intro h9 tk9 T9 u9 F9 N9; (try k_sweep)))
local macro_rules | `(tactic| walk_at "leaving ref") => `(tactic| (first
  | (refine' leave_raiseS ?k1 ?k0 ?k2 ?k3 ?_; (case k0 => first | assumption | exact Heap.MadeExc.of (by assumption)); (case k2 => assumption); (case k1 => assumption); (case k3 => k_asm); k_whole; intro h' t' S' R' U'; (try dsimp only at S' R' U' ⊢))
  | (refine' leave_onS ?k1 ?k2 ?k3 ?k4 ?_; (case k3 => assumption); (case k2 => assumption); (case k1 => assumption); (case k4 => assumption); k_whole; intro h' S' R' U'; (try dsimp only at S' R' U' ⊢))))

local macro_rules | `(tactic| walk_at "subscriptTail") => `(tactic| ((with_reducible show wpAny _ _ (subscriptTail _ _ (Value.ref (Fx.pool _)) (Value.int ((Fin.val _ : Nat) : Int) _)) _ _ _); k_dflt (refine' item3 (fun j => Value.ref (Fx.loc _ j)) ?N ?m ?_; (case N => k_asm); (case m => k_mem)); (try dsimp only)))
local macro_rules | `(tactic| walk_at "subscriptTail") => `(tactic| ((with_reducible show wpAny _ _ (subscriptTail _ _ (Value.ref (Fx.cells _)) (Value.int ((Fin.val _ : Nat) : Int) _)) _ _ _); k_dflt (refine' item3 (fun j => Value.ref (Fx.c _ j)) ?N ?m ?_; (case N => k_asm); (case m => k_mem)); (try dsimp only)))
local macro_rules | `(tactic| walk_at "subscriptTail") => `(tactic| ((with_reducible show wpAny _ _ (subscriptTail _ _ (Value.ref (Fx.plans _)) (Value.int ((Fin.val _ : Nat) : Int) _)) _ _ _); k_dflt (refine' item2 (fun j => Value.ref (Fx.x _ j)) ?N ?m ?_; (case N => k_asm); (case m => k_mem)); (try dsimp only)))
local macro_rules | `(tactic| walk_at "subscriptTail") => `(tactic| ((with_reducible show wpAny _ _ (subscriptTail _ _ (Value.ref (Fx.picks _)) (Value.int ((Fin.val _ : Nat) : Int) _)) _ _ _); k_dflt (refine' item2 (fun j => Value.ref (Fx.pk _ j)) ?N ?m ?_; (case N => k_asm); (case m => k_mem)); (try dsimp only)))
local macro_rules | `(tactic| walk_at "call builtin:len") => `(tactic| ((with_reducible show wpAny _ _ (call (Value.builtin "len") [Value.ref _]) _ _ _); k_dflt (refine' len_led ?N ?m ?s ?f ?_; (case N => k_asm); (case m => k_mem); (case s => assumption); (case f => assumption)); intro t9 k9))

local macro_rules | `(tactic| k_handed) => `(tactic| exact handed_vO)
local macro_rules | `(tactic| walk_at "eval Name") => `(tactic| (k_dflt (refine' nameX_L ?k1 ?k2 ?_; (case k1 => k_asm); (case k2 => first | assumption | exact rfl | ((simp (decide := true) only [↓reduceIte]); assumption)))))
local macro_rules | `(tactic| walk_at "pyIter ref") => `(tactic| refine Stop.mk ?_)
local macro_rules | `(tactic| walk_at "execs cons") => `(tactic| ((with_reducible show wpAny _ _ (execs (Stmt.For _ _ _ _ _ :: _) _) _ _ _); refine Stop.mk ?_))
local macro_rules | `(tactic| walk_at "execs cons") => `(tactic| ((with_reducible show wpAny _ _ (execs (Stmt.Return _ _ :: _) _) _ _ _); refine Stop.mk ?_))
local macro_rules | `(tactic| walk_at "subscriptTail") => `(tactic| ((with_reducible show wpAny _ _ (subscriptTail _ (PySem.Expr.Slice _ _ none _) (Value.ref _) (Value.ref _)) _ _ _); k_dflt (refine' kmk_slice_ints ?F ?N ?l ?p ?q ?i ?m ?c ?_ ?s ?t ?z; (case F => k_asm); (case N => k_asm); (case l => kmk_list); (case p => kmk_part); (case q => kmk_part); (case i => l_ints); (case m => kmk_nums); (case c => kmk_len); (case s => with_unfolding_all rfl); (case t => kmk_pure); (case z => (refine kmk_sz (by l_ints) ?_; (simp only [sizeLine_eq]; omega)))); intro D' ws' h' F' N' l1 hI' hC' hL'; (try simp only [Int.reduceNeg, Int.neg_neg, Int.reduceToNat] at hI' hC' hL'); (try k_lt l1); (try k_sweep)))
local macro_rules | `(tactic| walk_at "subscriptTail Name Slice ref ref") => `(tactic| ((with_reducible show wpAny _ _ (subscriptTail _ (PySem.Expr.Slice _ _ none _) (Value.ref _) (Value.ref _)) _ _ _); k_dflt (refine' kmk_slice_ints ?F ?N ?l ?p ?q ?i ?m ?c ?_ ?s ?t ?z; (case F => k_asm); (case N => k_asm); (case l => kmk_list); (case p => kmk_part); (case q => kmk_part); (case i => l_ints); (case m => kmk_nums); (case c => kmk_len); (case s => with_unfolding_all rfl); (case t => kmk_pure); (case z => (refine kmk_sz (by l_ints) ?_; (simp only [sizeLine_eq]; omega)))); intro D' ws' h' F' N' l1 hI' hC' hL'; (try simp only [Int.reduceNeg, Int.neg_neg, Int.reduceToNat] at hI' hC' hL'); (try k_lt l1); (try k_sweep)))
theorem ints_at : ∀ {vs : List Value} {ns : List Int} {i : Nat} {v : Value}, IntsAre vs ns → vs[i]? = some v → ∃ k t, v = .int k t
  | _, _, _, _, .nil, h => by cases h
  | _, _, 0, _, .cons _ _ _, h => by cases h; exact ⟨_, _, rfl⟩
  | _, _, i + 1, _, .cons _ _ r, h => ints_at (i := i) r h
theorem allLt_mem {b : Addr} : ∀ {l : List (Addr × Obj)}, AllLt b l → ∀ p ∈ l, @LT.lt Nat _ p.1 b
  | [], _, _, h => nomatch h
  | _ :: _, x, p, h => by
    rcases List.mem_cons.mp h with rfl | h
    · exact x.1
    · exact allLt_mem x.2 p h
section
variable {w : World} {A₀ : Around} {s : Shared} {base h₀ : Heap} {L : Addr} {m : Str → Option Value} {mean : ExcName → Option Value} {mg mb : Str → Option Value}
  {E : Value → Shared → Prop} {Q : Flow → Shared → Prop} {dp un : Nat} {cn : Str} {a : Addr} {ccd : Value}
theorem tail_ok {f : Fx} {v : Sv} {R : List (Addr × Obj)} {oA drawsA : Addr} {oo : Obj} {wv : List Value} {ds : List Int} (B : Below A₀ base [] h₀) (F : Fr h₀ L s.heap m) (X : (hd.heap_39 w.params).In h₀) (T : Top hd.view_39 LO mean mg mb h₀) (XTB : BaseOk w mean mg mb base)
   (hdp : dp + 100 < 1000) (hun : un + 1000 < 9900) (hE : PassesOwn (model PySem.Challenge.rw_eh5030_01.row.prog w) (ktrTop dp un (some []) cn lawSc L a ccd [] []) (envOf cn lawSc L a ccd) E)
   (O : FxOk f) (Bd : FxB f) (N : News h₀ L s.heap (Wd w f v ++ R)) (hR : ROff f R) (I : Inv f v) (hm : LawM f oA m) (hlen : ∀ d, (v.pv d).es.length ≤ 1)
   (hoA : (oA, oo) ∈ R) (hoo : OffT oo) (md : m (Str.ofString "draws") = some (.ref drawsA)) (hdr : (drawsA, listOf wv.toArray 0) ∈ R) (hI : IntsAre wv ds) (hl1 : 6 ≤ ds.length) (hl2 : ds.length ≤ 10)
   (hQ : ∀ (h' : Heap) (tk' : Nat) (m' : Str → Option Value), Fr h₀ L h' m' → Q (.ret (.bool true)) { s with heap := h', toks := tk' }) :
   wpAny (model PySem.Challenge.rw_eh5030_01.row.prog w) (ktrTop dp un (some []) cn lawSc L a ccd [] []) (execs [stAt lawB 7, stAt lawB 8, stAt lawB 9] (envOf cn lawSc L a ccd)) Q E s := by
  have hE0 := hE
  revert hE
  conv =>
    pattern (occs := *) (stAt _ _)
    all_goals whnf
  conv =>
    pattern (occs := *) lawSc
    all_goals whnf
  intro hE
  obtain ⟨p1, p2, p3, p4, p5⟩ := id hm
  have N₀ : News h₀ L s.heap ((drawsA, listOf wv.toArray 0) :: (Wd w f v ++ R)) := List.forall_mem_cons.mpr ⟨N _ (List.mem_append_right _ hdr), N⟩
  refine wpAny_execs_cons ?_
  refine For_invV h₀ rfl rfl ?_ (fun _ => rfl) hE
  clear hE
  k_steps
  refine Stop.of ?_
  rename_i D ws h₁ F₁ N₁ hIw hC hL l1
  have hW : ∀ p ∈ Wd w f v ++ R, @LT.lt Nat _ p.1 D := allLt_mem l1.2
  have hR2 : ROff f ((D, listOf ws.toArray 0) :: R) := by
    have hd : ∀ p ∈ Wd w f v, @Ne Nat D p.1 := fun p hp => Nat.ne_of_gt (hW p (List.mem_append_left _ hp))
    refine ⟨fun p hp j => ?_, fun p hp d => ?_⟩
    · rcases List.mem_cons.mp hp with rfl | hp
      · exact ⟨hd _ (wd_lc j _ (.tail _ (.head _))), hd _ (wd_cell j)⟩
      · exact hR.1 p hp j
    · rcases List.mem_cons.mp hp with rfl | hp
      · exact ⟨hd _ (wd_plan d _ (.tail _ (.head _))), hd _ (wd_plan d _ (.tail _ (.tail _ (.head _)))), hd _ (wd_pick d)⟩
      · exact hR.2 p hp d
  have N₂ : News h₀ L h₁ (Wd w f v ++ ((D, listOf ws.toArray 0) :: R)) := news_sub N₁ (fun p hp => by
    rcases List.mem_append.mp hp with hp | hp
    · exact .tail _ (.tail _ (List.mem_append_left _ hp))
    rcases List.mem_cons.mp hp with rfl | hp
    · exact .head _
    · exact .tail _ (.tail _ (List.mem_append_right _ hp)))
  clear hW
  refine' forListL (L := L) (le := D) (its := ws.toArray) (n := 0) ?zL ?zF ?zN ?zm ?zh
    (fun i m' news' => ∃ v', news' = Wd w f v' ++ ((D, listOf ws.toArray 0) :: R) ∧ Inv f v' ∧ (∀ d, (v'.pv d).es.length ≤ i + 1) ∧ LawM f oA m') ?z0 ?zstep ?zkeep ?zdone
  case zL => rfl
  case zh => rfl
  case zF => exact F₁
  case zN => exact N₂
  case zm => exact List.mem_append_right _ (.head _)
  case z0 => exact ⟨v, rfl, I, hlen, hm⟩
  case zkeep =>
    rintro i m' news' ⟨v', rfl, _⟩
    exact List.mem_append_right _ (.head _)
  case zdone =>
    rintro h₂ tk₂ m₂ news₂ F₂ N₃ ⟨v', rfl, I', hl', hm'⟩
    k_steps
    refine Stop.of ?_
    refine wpAny_execs_cons ?_
    refine bloop_ok (f := f) (v := v') (R := (D, listOf ws.toArray 0) :: R) (oA := oA) B F₂ X T XTB hdp hun hE0 N₃ I' hm' ?_
    intro h₃ tk₃ m₃ hm₃ F₃ N₄
    k_steps
    refine Stop.of ?_
    refine wpAny_execs_cons ?_
    refine ret_ok (f := f) (v := v') (R := (D, listOf ws.toArray 0) :: R) (oA := oA) B F₃ X T hdp hun O N₄ I' hm₃ ?_
    intro h₄ tk₄ m₄ F₄
    exact hQ _ _ _ F₄
  case zstep =>
    rintro i x m₁ news₁ h₂ tk₂ own hi hx ⟨v', rfl, I', hl', hm'⟩ hof hsz hown ⟨oI, hoI⟩ F₂ N₃
    have hws : ws.toArray.size ≤ 10 := by
      rw [List.size_toArray, hIw.length]; omega
    obtain ⟨qn, tn, rfl⟩ : ∃ k t, x = .int k t := ints_at hIw (i := i) (by simpa using hx)
    have hmk : Mark h₁.objs.size 1 (own ++ ((D, listOf ws.toArray 0) :: R)) := ⟨_, List.mem_append_left _ hoI, Nat.le_refl _⟩
    have hlt : ∀ p ∈ Wd w f v, @LT.lt Nat _ p.1 h₁.objs.size := fun p hp => Heap.lt_size (N₂ p (List.mem_append_left _ hp)).1
    have hRo : ROff f (own ++ ((D, listOf ws.toArray 0) :: R)) := by
      refine ⟨fun p hp j => ?_, fun p hp d => ?_⟩
      · rcases List.mem_append.mp hp with hp | hp
        · rcases hown p hp with e | e
          · rw [e]
            exact ⟨Nat.ne_of_gt (hlt _ (wd_lc j _ (.tail _ (.head _)))), Nat.ne_of_gt (hlt _ (wd_cell j))⟩
          · exact hR2.1 p (e ▸ .head _) j
        · exact hR2.1 p hp j
      · rcases List.mem_append.mp hp with hp | hp
        · rcases hown p hp with e | e
          · rw [e]
            exact ⟨Nat.ne_of_gt (hlt _ (wd_plan d _ (.tail _ (.head _)))), Nat.ne_of_gt (hlt _ (wd_plan d _ (.tail _ (.tail _ (.head _))))), Nat.ne_of_gt (hlt _ (wd_pick d))⟩
          · exact hR2.2 p (e ▸ .head _) d
        · exact hR2.2 p hp d
    refine deed_ok (f := f) (v := v') (R := own ++ ((D, listOf ws.toArray 0) :: R)) (oA := oA) (oo := oo) (qn := qn) (tn := tn) (n := i + 1) B F₂ X T XTB hdp hun hE0 O Bd (news_swap N₃) hRo I' (hm'.set (by decide)) (by omega) hl' (List.mem_append_right _ (.tail _ hoA)) hoo (if_pos rfl) ?_
    intro v'' h' tk' m' I'' hl'' hm'' F' N' ho
    exact ⟨.inl rfl, h', tk', m', Wd w f v'' ++ ((D, listOf ws.toArray 0) :: R), rfl, F', news_swap N', off_app (ho _ 1 hmk (fun p hp => hof p (List.mem_append_left _ hp))) (fun p hp => hof p (List.mem_append_right _ hp)), v'', rfl, I'', hl'', hm''⟩
end
end Mine
namespace Mine
open PySem PySem.Calls PySem.Spec
def sel3 {α : Type} (a b c : α) : Fin 3 → α
  | 0 => a
  | 1 => b
  | 2 => c
def sel2 {α : Type} (a b : α) : Fin 2 → α
  | 0 => a
  | 1 => b
theorem sel3_ne {a b c : Addr} (h1 : @LT.lt Nat _ a b) (h2 : @LT.lt Nat _ b c) (i j : Fin 3) (h : i ≠ j) : sel3 a b c i ≠ sel3 a b c j := by
  match i, j, h with
  | 0, 0, h => exact absurd rfl h
  | 0, 1, _ => exact Nat.ne_of_lt h1
  | 0, 2, _ => exact Nat.ne_of_lt (Nat.lt_trans h1 h2)
  | 1, 0, _ => exact Nat.ne_of_gt h1
  | 1, 1, h => exact absurd rfl h
  | 1, 2, _ => exact Nat.ne_of_lt h2
  | 2, 0, _ => exact Nat.ne_of_gt (Nat.lt_trans h1 h2)
  | 2, 1, _ => exact Nat.ne_of_gt h2
  | 2, 2, h => exact absurd rfl h
theorem sel2_ne {a b : Addr} (h1 : @LT.lt Nat _ a b) (i j : Fin 2) (h : i ≠ j) : sel2 a b i ≠ sel2 a b j := by
  match i, j, h with
  | 0, 0, h => exact absurd rfl h
  | 0, 1, _ => exact Nat.ne_of_lt h1
  | 1, 0, _ => exact Nat.ne_of_gt h1
  | 1, 1, h => exact absurd rfl h
theorem okO_of {x : Option Int} (h : ∀ i, x = some i → e8 i = true) : okO x = true := by
  cases x with
  | none => rfl
  | some i => exact h i rfl
abbrev lvOf (r : Pc) : Lv := ⟨r.l.al, r.l.dal, r.l.low, r.l.high, r.l.tl, r.l.th, r.l.t5, r.l.t6, r.l.u, r.l.v⟩
abbrev cvOf (r : Pc) : Cv := ⟨r.l.low, r.l.high, r.tl, r.th⟩
abbrev stF (r0 r1 r2 : Pc) (pool cells pl pk pa pb x0 dx0 le0 x1 dx1 le1 : Addr) (np nc npl nk : Nat) : Fx where
  pool := pool
  cells := cells
  plans := pl
  picks := pk
  np := np
  nc := nc
  nl := npl
  nk := nk
  loc := sel3 r0.l.loc r1.l.loc r2.l.loc
  dloc := sel3 r0.l.dloc r1.l.dloc r2.l.dloc
  c := sel3 r0.c r1.c r2.c
  ad := sel3 r0.l.ad r1.l.ad r2.l.ad
  sz := sel3 r0.l.sz r1.l.sz r2.l.sz
  cn := sel3 r0.cn r1.cn r2.cn
  x := sel2 x0 x1
  dx := sel2 dx0 dx1
  le := sel2 le0 le1
  pk := sel2 pa pb
  t0 := sel3 r0.l.t0 r1.l.t0 r2.l.t0
  t1 := sel3 r0.l.t1 r1.l.t1 r2.l.t1
  t2 := sel3 r0.l.t2 r1.l.t2 r2.l.t2
  t3 := sel3 r0.l.t3 r1.l.t3 r2.l.t3
  t4 := sel3 r0.l.t4 r1.l.t4 r2.l.t4
  ta := sel3 r0.l.ta r1.l.ta r2.l.ta
  ts := sel3 r0.l.ts r1.l.ts r2.l.ts
  ca := sel3 r0.ca r1.ca r2.ca
  cs := sel3 r0.cs r1.cs r2.cs
  c1 := sel3 r0.c1 r1.c1 r2.c1
  c2 := sel3 r0.c2 r1.c2 r2.c2
abbrev stV (r0 r1 r2 : Pc) (en den : Addr) (n0 n1 : Nat) (k0 k1 k2 k3 k4 t : Tok) (na nb : Nat) : Sv where
  lv := sel3 (lvOf r0) (lvOf r1) (lvOf r2)
  cv := sel3 (cvOf r0) (cvOf r1) (cvOf r2)
  pv := sel2 ⟨n0, k1, k2, [⟨en, den, k0, 0⟩]⟩ ⟨n1, k3, k4, []⟩
  kv := sel2 ⟨na, [(0, t)]⟩ ⟨nb, []⟩
theorem pc_ok {r : Pc} (h : PcOk r) : LcOk r.l := ⟨Int.le_of_lt h.a1, h.a2, Int.le_of_lt h.s1, h.s2, by rw [okO_fA h.a1 h.a2]; exact okO_of h.lo, by rw [okO_fA h.s1 h.s2]; exact okO_of h.hi⟩
theorem pc_lt {r : Pc} (h : PcOk r) : @LT.lt Nat _ r.l.dloc r.c := Nat.lt_trans h.o1 (Nat.lt_trans h.o2 (Nat.lt_trans h.o3 h.o4))
theorem start_wd {w : World} {g h : Heap} {L : Addr} {r0 r1 r2 : Pc} {pool cells pl pk pa pb x0 dx0 le0 en den x1 dx1 le1 : Addr} {np nc npl nk n0 n1 na nb : Nat} {k0 k1 k2 k3 k4 t : Tok} {R : List (Addr × Obj)}
   (Ncp : News g L h [(cells, listOf #[.ref r0.c, .ref r1.c, .ref r2.c] nc), (pool, listOf #[.ref r0.l.loc, .ref r1.l.loc, .ref r2.l.loc] np)]) (N0 : News g L h (pcNews w r0)) (N1 : News g L h (pcNews w r1)) (N2 : News g L h (pcNews w r2)) (NR : News g L h R)
   (NP : News g L h [(pl, listOf #[.ref x0, .ref x1] npl), (x0, instObj 255 dx0), (dx0, dictOf (didEs w k1 k2 le0 (.ref 206)) 2), (le0, listOf #[.ref en] n0), (en, instObj 206 den), (den, dictOf [ent w (Str.ofString "memloc") k0 (.ref r0.l.loc)] 1), (x1, instObj 255 dx1), (dx1, dictOf (didEs w k3 k4 le1 (vD false)) 2), (le1, listOf #[] n1)])
   (NK : News g L h [(pk, listOf #[.ref pa, .ref pb] nk), (pa, listOf #[.int 0 t] na), (pb, listOf #[] nb)])
   (h0 : PcOk r0) (h1 : PcOk r1) (h2 : PcOk r2) (o1 : @LT.lt Nat _ pool cells) (o2 : @LT.lt Nat _ cells r0.l.dloc) (o3 : @LT.lt Nat _ r0.c r1.l.dloc) (o4 : @LT.lt Nat _ r1.c r2.l.dloc) (o5 : @LT.lt Nat _ r2.c dx0) (o6 : @LT.lt Nat _ dx0 le0) (o7 : @LT.lt Nat _ le0 dx1) (o8 : @LT.lt Nat _ dx1 le1) (o9 : @LT.lt Nat _ le1 pl)
   (o10 : @LT.lt Nat _ pl pa) (o11 : @LT.lt Nat _ pa pb) (o12 : @LT.lt Nat _ pb pk) (hR : ∀ p ∈ R, @LT.lt Nat _ p.1 pool) :
   ∃ f v, FxOk f ∧ FxB f ∧ Inv f v ∧ News g L h (Wd w f v ++ R) ∧ ROff f R ∧ (∀ d, (v.pv d).es.length ≤ 1) ∧ f.pool = pool ∧ f.cells = cells ∧ f.plans = pl ∧ f.picks = pk := by
  have d0 := pc_lt h0
  have d1 := pc_lt h1
  have d2 := pc_lt h2
  have hc : ∀ i, @LE.le Nat _ r0.c (sel3 r0.c r1.c r2.c i) ∧ @LT.lt Nat _ (sel3 r0.c r1.c r2.c i) dx0 := fun i => all3 (P := fun i => @LE.le Nat _ r0.c (sel3 r0.c r1.c r2.c i) ∧ @LT.lt Nat _ (sel3 r0.c r1.c r2.c i) dx0) i
    (by show @LE.le Nat _ r0.c r0.c ∧ @LT.lt Nat _ r0.c dx0; omega) (by show @LE.le Nat _ r0.c r1.c ∧ @LT.lt Nat _ r1.c dx0; omega) (by show @LE.le Nat _ r0.c r2.c ∧ @LT.lt Nat _ r2.c dx0; omega)
  have hl : ∀ i, @LE.le Nat _ r0.l.dloc (sel3 r0.l.dloc r1.l.dloc r2.l.dloc i) ∧ @LT.lt Nat _ (sel3 r0.l.dloc r1.l.dloc r2.l.dloc i) dx0 := fun i => all3 (P := fun i => @LE.le Nat _ r0.l.dloc (sel3 r0.l.dloc r1.l.dloc r2.l.dloc i) ∧ @LT.lt Nat _ (sel3 r0.l.dloc r1.l.dloc r2.l.dloc i) dx0) i
    (by show @LE.le Nat _ r0.l.dloc r0.l.dloc ∧ @LT.lt Nat _ r0.l.dloc dx0; omega) (by show @LE.le Nat _ r0.l.dloc r1.l.dloc ∧ @LT.lt Nat _ r1.l.dloc dx0; omega) (by show @LE.le Nat _ r0.l.dloc r2.l.dloc ∧ @LT.lt Nat _ r2.l.dloc dx0; omega)
  have hx : ∀ d, @LE.le Nat _ dx0 (sel2 dx0 dx1 d) := fun d => all2 (P := fun d => @LE.le Nat _ dx0 (sel2 dx0 dx1 d)) d (by show @LE.le Nat _ dx0 dx0; omega) (by show @LE.le Nat _ dx0 dx1; omega)
  have he : ∀ d, @LT.lt Nat _ dx0 (sel2 le0 le1 d) ∧ @LT.lt Nat _ (sel2 le0 le1 d) pl := fun d => all2 (P := fun d => @LT.lt Nat _ dx0 (sel2 le0 le1 d) ∧ @LT.lt Nat _ (sel2 le0 le1 d) pl) d (by show @LT.lt Nat _ dx0 le0 ∧ @LT.lt Nat _ le0 pl; omega) (by show @LT.lt Nat _ dx0 le1 ∧ @LT.lt Nat _ le1 pl; omega)
  have hk : ∀ d, @LT.lt Nat _ pl (sel2 pa pb d) ∧ @LT.lt Nat _ (sel2 pa pb d) pk := fun d => all2 (P := fun d => @LT.lt Nat _ pl (sel2 pa pb d) ∧ @LT.lt Nat _ (sel2 pa pb d) pk) d (by show @LT.lt Nat _ pl pa ∧ @LT.lt Nat _ pa pk; omega) (by show @LT.lt Nat _ pl pb ∧ @LT.lt Nat _ pb pk; omega)
  have hcb : @LT.lt Nat _ cells r0.c := by omega
  have hcx : @LT.lt Nat _ cells dx0 := by omega
  have hcl : @LT.lt Nat _ cells pl := by omega
  have hxl : @LT.lt Nat _ dx0 pl := by omega
  have hlk : @LT.lt Nat _ pl pk := by omega
  have ne1 : ∀ {z : Addr}, (@LE.le Nat _ z cells) → (∀ i, z ≠ sel3 r0.c r1.c r2.c i) ∧ (∀ d, z ≠ sel2 le0 le1 d) ∧ (∀ d, z ≠ sel2 pa pb d) := fun {z} hz =>
    ⟨fun i => Nat.ne_of_lt (Nat.lt_of_le_of_lt hz (Nat.lt_of_lt_of_le hcb (hc i).1)), fun d => Nat.ne_of_lt (Nat.lt_of_le_of_lt hz (Nat.lt_trans hcx (he d).1)), fun d => Nat.ne_of_lt (Nat.lt_of_le_of_lt hz (Nat.lt_trans hcl (hk d).1))⟩
  refine ⟨stF r0 r1 r2 pool cells pl pk pa pb x0 dx0 le0 x1 dx1 le1 np nc npl nk, stV r0 r1 r2 en den n0 n1 k0 k1 k2 k3 k4 t na nb, ?_, ?_, ?_, news_app ?_ NR, ?_, ?_, rfl, rfl, rfl, rfl⟩
  · refine ⟨sel3_ne (by omega) (by omega), sel2_ne (by omega), sel3_ne (by omega) (by omega), sel2_ne (by omega), sel2_ne (by omega), ?_, ?_, ?_, ?_⟩
    · exact fun i d => Nat.ne_of_lt (Nat.lt_trans (hc i).2 (he d).1)
    · exact fun i d => Nat.ne_of_lt (Nat.lt_trans (hc i).2 (Nat.lt_trans hxl (hk d).1))
    · exact fun d e => Nat.ne_of_lt (Nat.lt_trans (he d).2 (hk e).1)
    · intro p hp
      simp only [List.mem_cons, List.not_mem_nil, or_false] at hp
      rcases hp with rfl | rfl | rfl | rfl
      · exact ne1 (Nat.le_of_lt o1)
      · exact ne1 (Nat.le_refl _)
      · exact ⟨fun i => Nat.ne_of_gt (Nat.lt_trans (hc i).2 hxl), fun d => Nat.ne_of_gt (he d).2, fun d => Nat.ne_of_lt (hk d).1⟩
      · exact ⟨fun i => Nat.ne_of_gt (Nat.lt_trans (hc i).2 (Nat.lt_trans hxl hlk)), fun d => Nat.ne_of_gt (Nat.lt_trans (he d).2 hlk), fun d => Nat.ne_of_gt (hk d).2⟩
  · exact ⟨fun j => all3 (P := fun j => 1 ≤ sel3 r0.l.ad r1.l.ad r2.l.ad j) j h0.a1 h1.a1 h2.a1, fun j => all3 (P := fun j => sel3 r0.l.ad r1.l.ad r2.l.ad j < 2 ^ 56) j h0.a2 h1.a2 h2.a2, fun j => all3 (P := fun j => 1 ≤ sel3 r0.l.sz r1.l.sz r2.l.sz j) j h0.s1 h1.s1 h2.s1, fun j => all3 (P := fun j => sel3 r0.l.sz r1.l.sz r2.l.sz j < 2 ^ 56) j h0.s2 h1.s2 h2.s2⟩
  · refine ⟨fun j => ?_, fun j => ?_, fun j => ?_, fun d => ?_, fun d => ?_⟩
    · match j with
      | 0 => exact pc_ok h0
      | 1 => exact pc_ok h1
      | 2 => exact pc_ok h2
    · match j with
      | 0 => rfl
      | 1 => rfl
      | 2 => rfl
    · match j with
      | 0 => rfl
      | 1 => rfl
      | 2 => rfl
    · match d with
      | 0 => rfl
      | 1 => rfl
    · match d with
      | 0 => exact Nat.le_of_ble_eq_true rfl
      | 1 => exact Nat.le_of_ble_eq_true rfl
  · intro p hp
    rcases mem_Wd.mp hp with hp | ⟨i, rfl⟩ | ⟨d, rfl⟩ | ⟨i, hp⟩ | ⟨d, hp⟩ | ⟨d, e, he, hp⟩
    · simp only [List.mem_cons, List.not_mem_nil, or_false] at hp
      rcases hp with rfl | rfl | rfl | rfl
      · exact Ncp _ (.tail _ (.head _))
      · exact Ncp _ (.head _)
      · exact NP _ (.head _)
      · exact NK _ (.head _)
    · match i with
      | 0 => exact N0 _ (.head _)
      | 1 => exact N1 _ (.head _)
      | 2 => exact N2 _ (.head _)
    · match d with
      | 0 => exact NK _ (.tail _ (.head _))
      | 1 => exact NK _ (.tail _ (.tail _ (.head _)))
    · match i, hp with
      | 0, hp => exact N0 p (.tail _ hp)
      | 1, hp => exact N1 p (.tail _ hp)
      | 2, hp => exact N2 p (.tail _ hp)
    · match d, hp with
      | 0, hp =>
        rcases List.mem_cons.mp hp with rfl | hp
        · exact NP _ (.tail _ (.head _))
        rcases List.mem_cons.mp hp with rfl | hp
        · exact NP _ (.tail _ (.tail _ (.head _)))
        · obtain rfl := List.mem_singleton.mp hp
          exact NP _ (.tail _ (.tail _ (.tail _ (.head _))))
      | 1, hp =>
        rcases List.mem_cons.mp hp with rfl | hp
        · exact NP _ (.tail _ (.tail _ (.tail _ (.tail _ (.tail _ (.tail _ (.head _)))))))
        rcases List.mem_cons.mp hp with rfl | hp
        · exact NP _ (.tail _ (.tail _ (.tail _ (.tail _ (.tail _ (.tail _ (.tail _ (.head _))))))))
        · obtain rfl := List.mem_singleton.mp hp
          exact NP _ (.tail _ (.tail _ (.tail _ (.tail _ (.tail _ (.tail _ (.tail _ (.tail _ (.head _)))))))))
    · match d, he with
      | 0, he =>
        obtain rfl := List.mem_singleton.mp he
        rcases List.mem_cons.mp hp with rfl | hp
        · exact NP _ (.tail _ (.tail _ (.tail _ (.tail _ (.head _)))))
        · obtain rfl := List.mem_singleton.mp hp
          exact NP _ (.tail _ (.tail _ (.tail _ (.tail _ (.tail _ (.head _))))))
      | 1, he => cases he
  · have low : ∀ p ∈ R, @LT.lt Nat _ p.1 r0.l.dloc := fun p hp => by have := hR p hp; omega
    have hlc : @LT.lt Nat _ r0.l.dloc r0.c := d0
    have hlx : @LT.lt Nat _ r0.l.dloc dx0 := by omega
    refine ⟨fun p hp j => ⟨Nat.ne_of_lt (Nat.lt_of_lt_of_le (low p hp) (hl j).1), Nat.ne_of_lt (Nat.lt_of_lt_of_le (Nat.lt_trans (low p hp) hlc) (hc j).1)⟩, fun p hp d => ⟨Nat.ne_of_lt (Nat.lt_of_lt_of_le (Nat.lt_trans (low p hp) hlx) (hx d)), Nat.ne_of_lt (Nat.lt_trans (Nat.lt_trans (low p hp) hlx) (he d).1), Nat.ne_of_lt (Nat.lt_trans (Nat.lt_trans (low p hp) (Nat.lt_trans hlx hxl)) (hk d).1)⟩⟩
  · intro d
    match d with
    | 0 => exact Nat.le_refl _
    | 1 => exact Nat.zero_le _
end Mine
namespace Mine
open PySem PySem.Calls PySem.Spec
theorem rs_Y9 : True := by w_top off; trivial
local macro_rules | `(tactic| ktr_enter) => `(tactic| (
  refine' enterK ?k1 ?k2 ?k3 ?k4 ?k5 ?kA ?kF ?kK ?k6 ?k7 ?k8 ?k9 ?kB ?_ ?c5 ?c2 ?c3 ?c4;
  (case kA => exact rfl); (case kF => exact rfl); (case kK => first | assumption | exact rfl); (case k1 => assumption); (case k2 => assumption); (case k3 => assumption); (case k4 => assumption); (case k5 => assumption);
  (case k6 => k_is); (case k7 => k_is); (case k8 => first | (simp only [recursionLimit]; omega) | ktr_room); (case k9 => first | exact BindsTo.of_eq rfl | exact binds_K (by k_in) rfl (by k_is) rfl rfl rfl); (case c5 => decide); (case kB => exact locs rfl); (case c2 => exact rfl); (case c3 => exact rfl); (case c4 => exact rfl)))
local macro_rules | `(tactic| walk_at "subscriptTail") => `(tactic| ((with_reducible show wpAny _ _ (subscriptTail _ _ (Value.ref 58) (Value.int _ _)) _ _ _); k_dflt (refine' item58 ?F ?X ?h ?_; (case F => k_asm); (case X => k_asm); (case h => assumption)); intro t'))
local macro_rules | `(tactic| walk_at "subscriptTail") => `(tactic| ((with_reducible show wpAny _ _ (subscriptTail _ _ (Value.ref 57) (Value.int _ _)) _ _ _); k_dflt (refine' item57 ?F ?X ?h ?_; (case F => k_asm); (case X => k_asm); (case h => assumption)); intro t'))
local macro_rules | `(tactic| walk_at "compareOp NotIn int ref") => `(tactic| ((with_reducible show wpAny _ _ (compareOp CmpOp.NotIn (Value.int _ _) (Value.ref 58)) _ _ _); k_dflt (refine' notin58 ?F ?X ?_; (case F => k_asm); (case X => k_asm))))
local macro_rules | `(tactic| walk_at "compareOp NotIn int ref") => `(tactic| ((with_reducible show wpAny _ _ (compareOp CmpOp.NotIn (Value.int _ _) (Value.ref 57)) _ _ _); k_dflt (refine' notin57 ?F ?X ?_; (case F => k_asm); (case X => k_asm))))
local macro_rules | `(tactic| walk_at "binaryOp LShift int int") => `(tactic| (refine lshift_int_small (by decide) (by decide) (by omega) ?_))
local macro_rules | `(tactic| walk_at "call builtin:_struct.pack") => `(tactic| ((with_reducible show wpAny _ _ (call (Value.builtin _) [Value.str _ _, Value.int _ _]) _ _ _); k_dflt (first | (refine' pack_B ?h0 ?h1 ?_; (case h0 => omega); (case h1 => omega)) | (refine' pack_q ?h0 ?h1 ?_; (case h0 => omega); (case h1 => omega))); intro t'))
local macro_rules | `(tactic| ktr_rel) => `(tactic| exact back_led (by assumption) (by assumption) (by assumption) (by assumption) (by assumption) (fun p hp => .inr hp))
local macro_rules | `(tactic| ktr_unf) => `(tactic| first | omega | ((try dsimp only [Around.deeper, Around.in1, Around.mark]); (try simp only [dU, uU]); (try dsimp only [ktrTop, Around.deeper, Around.in1, Around.mark]); omega))
local macro_rules | `(tactic| k_enter) => `(tactic| (ktr_enter; intro g' L' h' kg' lL' FG' F' N' B' X' T'; (try dsimp only); (try k_fold)))
local macro_rules | `(tactic| walk_at "call ref") => `(tactic| (k_here; k_dflt (refine' call_clsK ?k1 ?k2 ?k3 ?k4 ?k5 ?k6 ?_; (case k1 => k_asm); (case k2 => k_asm); (case k3 => k_asm); (case k4 => k_is); (case k5 => k_is); (case k6 => k_is); k_whole; intro x' d' h' x1 l1 l2 F' N'; (try ((have l9 := news_lt (by assumption) l1); (k_lt l9))); (try k_lt2 l1); (try k_lt2 l2); (try k_sweep); k_enter)))

local macro_rules | `(tactic| walk_at "getMethod ref") => `(tactic| ((with_reducible show wpAny _ _ (getMethod (Value.ref 57) (Str.ofString "keys") _) _ _ _); k_dflt (refine' getKeys (D := D8) ?K ?F ?_; (case K => exact map57 (by k_asm)); (case F => k_asm))))
local macro_rules | `(tactic| walk_at "getMethod ref") => `(tactic| ((with_reducible show wpAny _ _ (getMethod (Value.ref 58) (Str.ofString "keys") _) _ _ _); k_dflt (refine' getKeys (D := D8) ?K ?F ?_; (case K => exact map58 (by k_asm)); (case F => k_asm))))
local macro_rules | `(tactic| walk_at "call builtin:dict.keys") => `(tactic| ((with_reducible show wpAny _ _ (call (Value.builtin "dict.keys") [Value.ref 57]) _ _ _); k_dflt (refine' callKeys (D := D8) ?K ?F ?N ?_; (case K => exact map57 (by k_asm)); (case F => k_asm); (case N => k_asm)); intro v9 h9 F9 N9 l9; (try k_lt l9); (try k_sweep)))
local macro_rules | `(tactic| walk_at "call builtin:dict.keys") => `(tactic| ((with_reducible show wpAny _ _ (call (Value.builtin "dict.keys") [Value.ref 58]) _ _ _); k_dflt (refine' callKeys (D := D8) ?K ?F ?N ?_; (case K => exact map58 (by k_asm)); (case F => k_asm); (case N => k_asm)); intro v9 h9 F9 N9 l9; (try k_lt l9); (try k_sweep)))
local macro_rules | `(tactic| walk_at "call type:list") => `(tactic| ((with_reducible show wpAny _ _ (call (Value.type _) [Value.ref _]) _ _ _); k_dflt (first | (refine' listKeys (a := 57) ?K ?hh ?F ?N ?hv ?_; (case K => exact map57 (by k_asm)); (case hh => exact rfl); (case F => k_asm); (case N => k_asm); (case hv => k_mem)) | (refine' listKeys (a := 58) ?K ?hh ?F ?N ?hv ?_; (case K => exact map58 (by k_asm)); (case hh => exact rfl); (case F => k_asm); (case N => k_asm); (case hv => k_mem))); intro B9 c9 h9 tk9 t91 t92 t93 t94 t95 t96 t97 t98 F9 N9 l9; (try k_lt l9); (try k_sweep)))
local macro_rules | `(tactic| walk_at "binaryOp Mod str ref") => `(tactic| (k_dflt (first | (refine' modL (Y := F1) ?e meetsL ?hg ?hu ?F ?N ?hB ?_; (case e => decide +kernel); (case hg => exact rfl); (case hu => ((show _ < 9900); ktr_unf)); (case F => k_asm); (case N => k_asm); (case hB => k_mem)) | (refine' modL (Y := F2) ?e meetsL2 ?hg ?hu ?F ?N ?hB ?_; (case e => decide +kernel); (case hg => exact rfl); (case hu => ((show _ < 9900); ktr_unf)); (case F => k_asm); (case N => k_asm); (case hB => k_mem))); intro h9 tk9 T9 u9 F9 N9; (try k_sweep)))
local macro_rules | `(tactic| walk_at "leaving ref") => `(tactic| (first
  | (refine' leave_raiseS ?k1 ?k0 ?k2 ?k3 ?_; (case k0 => first | assumption | exact Heap.MadeExc.of (by assumption)); (case k2 => assumption); (case k1 => assumption); (case k3 => k_asm); k_whole; intro h' t' S' R' U'; (try dsimp only at S' R' U' ⊢))
  | (refine' leave_onS ?k1 ?k2 ?k3 ?k4 ?_; (case k3 => assumption); (case k2 => assumption); (case k1 => assumption); (case k4 => assumption); k_whole; intro h' S' R' U'; (try dsimp only at S' R' U' ⊢))))

local macro_rules | `(tactic| walk_at "subscriptTail") => `(tactic| ((with_reducible show wpAny _ _ (subscriptTail _ _ (Value.ref (Fx.pool _)) (Value.int ((Fin.val _ : Nat) : Int) _)) _ _ _); k_dflt (refine' item3 (fun j => Value.ref (Fx.loc _ j)) ?N ?m ?_; (case N => k_asm); (case m => k_mem)); (try dsimp only)))
local macro_rules | `(tactic| walk_at "subscriptTail") => `(tactic| ((with_reducible show wpAny _ _ (subscriptTail _ _ (Value.ref (Fx.cells _)) (Value.int ((Fin.val _ : Nat) : Int) _)) _ _ _); k_dflt (refine' item3 (fun j => Value.ref (Fx.c _ j)) ?N ?m ?_; (case N => k_asm); (case m => k_mem)); (try dsimp only)))
local macro_rules | `(tactic| walk_at "subscriptTail") => `(tactic| ((with_reducible show wpAny _ _ (subscriptTail _ _ (Value.ref (Fx.plans _)) (Value.int ((Fin.val _ : Nat) : Int) _)) _ _ _); k_dflt (refine' item2 (fun j => Value.ref (Fx.x _ j)) ?N ?m ?_; (case N => k_asm); (case m => k_mem)); (try dsimp only)))
local macro_rules | `(tactic| walk_at "subscriptTail") => `(tactic| ((with_reducible show wpAny _ _ (subscriptTail _ _ (Value.ref (Fx.picks _)) (Value.int ((Fin.val _ : Nat) : Int) _)) _ _ _); k_dflt (refine' item2 (fun j => Value.ref (Fx.pk _ j)) ?N ?m ?_; (case N => k_asm); (case m => k_mem)); (try dsimp only)))
local macro_rules | `(tactic| walk_at "call builtin:len") => `(tactic| ((with_reducible show wpAny _ _ (call (Value.builtin "len") [Value.ref _]) _ _ _); k_dflt (refine' len_led ?N ?m ?s ?f ?_; (case N => k_asm); (case m => k_mem); (case s => assumption); (case f => assumption)); intro t9 k9))

local macro_rules | `(tactic| k_handed) => `(tactic| exact handed_vO)
local macro_rules | `(tactic| walk_at "eval Name") => `(tactic| (k_dflt (refine' nameX_L ?k1 ?k2 ?_; (case k1 => k_asm); (case k2 => first | assumption | exact rfl | ((simp (decide := true) only [↓reduceIte]); assumption)))))
local macro_rules | `(tactic| walk_at "call ref") => `(tactic| ((with_reducible show wpAny _ _ (call (Value.ref 255) _ _) _ _ _); refine Stop.mk ?_))
local macro_rules | `(tactic| walk_at "execs cons") => `(tactic| ((with_reducible show wpAny _ _ (execs (Stmt.For _ _ _ _ _ :: _) _) _ _ _); refine Stop.mk ?_))
section
variable {w : World} {A₀ : Around} {s : Shared} {base h₀ : Heap} {L : Addr} {m : Str → Option Value} {mean : ExcName → Option Value} {mg mb : Str → Option Value}
  {E : Value → Shared → Prop} {Q : Flow → Shared → Prop} {dp un : Nat} {cn : Str} {a : Addr} {ccd : Value}
theorem plans_ok {poolA cellsA drawsA oA : Addr} {oo : Obj} {np nc : Nat} {wv : List Value} {ds : List Int} {r0 r1 r2 : Pc} (B : Below A₀ base [] h₀) (F : Fr h₀ L s.heap m) (X : (hd.heap_39 w.params).In h₀) (T : Top hd.view_39 LO mean mg mb h₀)
   (hdp : dp + 100 < 1000) (hun : un + 1000 < 9900)
   (N : News h₀ L s.heap ((cellsA, listOf #[.ref r0.c, .ref r1.c, .ref r2.c] nc) :: (poolA, listOf #[.ref r0.l.loc, .ref r1.l.loc, .ref r2.l.loc] np) :: (pcNews w r0 ++ (pcNews w r1 ++ (pcNews w r2 ++ [(drawsA, listOf wv.toArray 0), (oA, oo)])))))
   (hI : IntsAre wv ds) (hl1 : 6 ≤ ds.length) (hl2 : ds.length ≤ 10) (mp : m (Str.ofString "pool") = some (.ref poolA)) (md : m (Str.ofString "draws") = some (.ref drawsA))
   (hQ : ∀ (h' : Heap) (tk' : Nat) (m' : Str → Option Value), Fr h₀ L h' m' → PlansP w h₀ L m r0.l.loc ((cellsA, listOf #[.ref r0.c, .ref r1.c, .ref r2.c] nc) :: (poolA, listOf #[.ref r0.l.loc, .ref r1.l.loc, .ref r2.l.loc] np) :: (pcNews w r0 ++ (pcNews w r1 ++ (pcNews w r2 ++ [(drawsA, listOf wv.toArray 0), (oA, oo)])))) h' m' → Q .next { s with heap := h', toks := tk' }) :
   wpAny (model PySem.Challenge.rw_eh5030_01.row.prog w) (ktrTop dp un (some []) cn lawSc L a ccd [] []) (exec (stAt lawB 5) (envOf cn lawSc L a ccd)) Q E s := by
  conv =>
    pattern (occs := *) (stAt _ _)
    all_goals whnf
  conv =>
    pattern (occs := *) lawSc
    all_goals whnf
  have N₀ := news_app (news_app (news1 N (a := (drawsA, listOf wv.toArray 0)) (by k_mem)) (news2 N (a := (poolA, listOf #[.ref r0.l.loc, .ref r1.l.loc, .ref r2.l.loc] np)) (b := (r0.l.loc, instObj 157 r0.l.dloc)) (by k_mem) (by k_mem))) N
  simp only [List.cons_append, List.nil_append] at N₀
  have hd0 : (0 : Int) < ds.length := by omega
  have NLo := news2 N (a := (r0.l.loc, instObj 157 r0.l.dloc)) (b := (r0.l.dloc, _)) (by k_mem) (.tail _ (.tail _ (.tail _ (.tail _ (.head _)))))
  generalize (cellsA, listOf #[.ref r0.c, .ref r1.c, .ref r2.c] nc) :: (poolA, listOf #[.ref r0.l.loc, .ref r1.l.loc, .ref r2.l.loc] np) :: (pcNews w r0 ++ (pcNews w r1 ++ (pcNews w r2 ++ [(drawsA, listOf wv.toArray 0), (oA, oo)]))) = keep at N hQ
  have N₁ := N₀
  clear N₀
  k_steps
  · refine Stop.of ?_
    clear N₁
    refine' mkDid_pos ?B1 ?F1 ?X1 ?T1 ?h1 ?h2 ?h3 ?N1 ?_
    case h1 => rfl
    case h2 => ktr_unf
    case h3 => ktr_unf
    case B1 => assumption
    case F1 => exact F
    case X1 => assumption
    case T1 => assumption
    case N1 => exact NLo
    intro x0 dx0 le0 en den k0 k1 k2 n0 h₁ tk₁ K₁ o1 o2 o3 o4 o5 N₁
    have lt1 := news_lt N o1
    have N₂ := news_app N₁ (K₁.news0 N)
    simp only [List.cons_append, List.nil_append] at N₂
    have F₁ := K₁.fr
    k_steps
    refine Stop.of ?_
    refine' mkDid0_ok ?B2 ?F2 ?X2 ?T2 ?h4 ?h5 ?h6 ?_
    case h4 => rfl
    case h5 => ktr_unf
    case h6 => ktr_unf
    case B2 => assumption
    case F2 => exact F₁
    case X2 => assumption
    case T2 => assumption
    intro x1 dx1 le1 k3 k4 n1 h₂ tk₂ K₂ q1 q2 q3 N₃
    have lt2 : @LT.lt Nat _ en dx1 := news_lt N₂ q1 (en, _) (.head _)
    have N₄ := news_app N₃ (K₂.news0 N₂)
    simp only [List.cons_append, List.nil_append] at N₄
    have F₂ := K₂.fr
    k_steps
    rename_i pl h₃ l3 h₄ F₄ N₅
    refine hQ _ _ _ F₄ ⟨x0, dx0, le0, en, den, x1, dx1, le1, pl, n0, n1, 0, k0, k1, k2, k3, k4, rfl, ?_, lt1, o2, o3, o4, o5, lt2, q2, q3, l3.2.2.1⟩
    refine news_sub N₅ ?_
    iterate 9 (refine List.forall_mem_cons.mpr ⟨by k_mem, ?_⟩)
    exact fun p hp => List.mem_append_right (_ :: _ :: _ :: _ :: _ :: _ :: _ :: _ :: _ :: []) hp
  · refine Stop.of ?_
    clear N₁
    refine' mkDid_kw ?B3 ?F3 ?X3 ?T3 ?h7 ?h8 ?h9 ?N3 ?_
    case h7 => rfl
    case h8 => ktr_unf
    case h9 => ktr_unf
    case B3 => assumption
    case F3 => exact F
    case X3 => assumption
    case T3 => assumption
    case N3 => exact NLo
    intro x0 dx0 le0 en den k0 k1 k2 n0 h₁ tk₁ K₁ o1 o2 o3 o4 o5 N₁
    have lt1 := news_lt N o1
    have N₂ := news_app N₁ (K₁.news0 N)
    simp only [List.cons_append, List.nil_append] at N₂
    have F₁ := K₁.fr
    k_steps
    refine Stop.of ?_
    refine' mkDid0_ok ?B4 ?F4 ?X4 ?T4 ?g4 ?g5 ?g6 ?_
    case g4 => rfl
    case g5 => ktr_unf
    case g6 => ktr_unf
    case B4 => assumption
    case F4 => exact F₁
    case X4 => assumption
    case T4 => assumption
    intro x1 dx1 le1 k3 k4 n1 h₂ tk₂ K₂ q1 q2 q3 N₃
    have lt2 : @LT.lt Nat _ en dx1 := news_lt N₂ q1 (en, _) (.head _)
    have N₄ := news_app N₃ (K₂.news0 N₂)
    simp only [List.cons_append, List.nil_append] at N₄
    have F₂ := K₂.fr
    k_steps
    rename_i pl h₃ l3 h₄ F₄ N₅
    refine hQ _ _ _ F₄ ⟨x0, dx0, le0, en, den, x1, dx1, le1, pl, n0, n1, 0, k0, k1, k2, k3, k4, rfl, ?_, lt1, o2, o3, o4, o5, lt2, q2, q3, l3.2.2.1⟩
    refine news_sub N₅ ?_
    iterate 9 (refine List.forall_mem_cons.mpr ⟨by k_mem, ?_⟩)
    exact fun p hp => List.mem_append_right (_ :: _ :: _ :: _ :: _ :: _ :: _ :: _ :: _ :: []) hp

end
end Mine
namespace Mine
open PySem PySem.Calls PySem.Spec
theorem rs_YA : True := by w_top off; trivial
local macro_rules | `(tactic| ktr_enter) => `(tactic| (
  refine' enterK ?k1 ?k2 ?k3 ?k4 ?k5 ?kA ?kF ?kK ?k6 ?k7 ?k8 ?k9 ?kB ?_ ?c5 ?c2 ?c3 ?c4;
  (case kA => exact rfl); (case kF => exact rfl); (case kK => first | assumption | exact rfl); (case k1 => assumption); (case k2 => assumption); (case k3 => assumption); (case k4 => assumption); (case k5 => assumption);
  (case k6 => k_is); (case k7 => k_is); (case k8 => first | (simp only [recursionLimit]; omega) | ktr_room); (case k9 => first | exact BindsTo.of_eq rfl | exact binds_K (by k_in) rfl (by k_is) rfl rfl rfl); (case c5 => decide); (case kB => exact locs rfl); (case c2 => exact rfl); (case c3 => exact rfl); (case c4 => exact rfl)))
local macro_rules | `(tactic| walk_at "subscriptTail") => `(tactic| ((with_reducible show wpAny _ _ (subscriptTail _ _ (Value.ref 58) (Value.int _ _)) _ _ _); k_dflt (refine' item58 ?F ?X ?h ?_; (case F => k_asm); (case X => k_asm); (case h => assumption)); intro t'))
local macro_rules | `(tactic| walk_at "subscriptTail") => `(tactic| ((with_reducible show wpAny _ _ (subscriptTail _ _ (Value.ref 57) (Value.int _ _)) _ _ _); k_dflt (refine' item57 ?F ?X ?h ?_; (case F => k_asm); (case X => k_asm); (case h => assumption)); intro t'))
local macro_rules | `(tactic| walk_at "compareOp NotIn int ref") => `(tactic| ((with_reducible show wpAny _ _ (compareOp CmpOp.NotIn (Value.int _ _) (Value.ref 58)) _ _ _); k_dflt (refine' notin58 ?F ?X ?_; (case F => k_asm); (case X => k_asm))))
local macro_rules | `(tactic| walk_at "compareOp NotIn int ref") => `(tactic| ((with_reducible show wpAny _ _ (compareOp CmpOp.NotIn (Value.int _ _) (Value.ref 57)) _ _ _); k_dflt (refine' notin57 ?F ?X ?_; (case F => k_asm); (case X => k_asm))))
local macro_rules | `(tactic| walk_at "binaryOp LShift int int") => `(tactic| (refine lshift_int_small (by decide) (by decide) (by omega) ?_))
local macro_rules | `(tactic| walk_at "call builtin:_struct.pack") => `(tactic| ((with_reducible show wpAny _ _ (call (Value.builtin _) [Value.str _ _, Value.int _ _]) _ _ _); k_dflt (first | (refine' pack_B ?h0 ?h1 ?_; (case h0 => omega); (case h1 => omega)) | (refine' pack_q ?h0 ?h1 ?_; (case h0 => omega); (case h1 => omega))); intro t'))
local macro_rules | `(tactic| ktr_rel) => `(tactic| exact back_led (by assumption) (by assumption) (by assumption) (by assumption) (by assumption) (fun p hp => .inr hp))
local macro_rules | `(tactic| ktr_unf) => `(tactic| first | omega | ((try dsimp only [Around.deeper, Around.in1, Around.mark]); (try simp only [dU, uU]); (try dsimp only [ktrTop, Around.deeper, Around.in1, Around.mark]); omega))
local macro_rules | `(tactic| k_enter) => `(tactic| (ktr_enter; intro g' L' h' kg' lL' FG' F' N' B' X' T'; (try dsimp only); (try k_fold)))
local macro_rules | `(tactic| walk_at "call ref") => `(tactic| (k_here; k_dflt (refine' call_clsK ?k1 ?k2 ?k3 ?k4 ?k5 ?k6 ?_; (case k1 => k_asm); (case k2 => k_asm); (case k3 => k_asm); (case k4 => k_is); (case k5 => k_is); (case k6 => k_is); k_whole; intro x' d' h' x1 l1 l2 F' N'; (try ((have l9 := news_lt (by assumption) l1); (k_lt l9))); (try k_lt2 l1); (try k_lt2 l2); (try k_sweep); k_enter)))

local macro_rules | `(tactic| walk_at "getMethod ref") => `(tactic| ((with_reducible show wpAny _ _ (getMethod (Value.ref 57) (Str.ofString "keys") _) _ _ _); k_dflt (refine' getKeys (D := D8) ?K ?F ?_; (case K => exact map57 (by k_asm)); (case F => k_asm))))
local macro_rules | `(tactic| walk_at "getMethod ref") => `(tactic| ((with_reducible show wpAny _ _ (getMethod (Value.ref 58) (Str.ofString "keys") _) _ _ _); k_dflt (refine' getKeys (D := D8) ?K ?F ?_; (case K => exact map58 (by k_asm)); (case F => k_asm))))
local macro_rules | `(tactic| walk_at "call builtin:dict.keys") => `(tactic| ((with_reducible show wpAny _ _ (call (Value.builtin "dict.keys") [Value.ref 57]) _ _ _); k_dflt (refine' callKeys (D := D8) ?K ?F ?N ?_; (case K => exact map57 (by k_asm)); (case F => k_asm); (case N => k_asm)); intro v9 h9 F9 N9 l9; (try k_lt l9); (try k_sweep)))
local macro_rules | `(tactic| walk_at "call builtin:dict.keys") => `(tactic| ((with_reducible show wpAny _ _ (call (Value.builtin "dict.keys") [Value.ref 58]) _ _ _); k_dflt (refine' callKeys (D := D8) ?K ?F ?N ?_; (case K => exact map58 (by k_asm)); (case F => k_asm); (case N => k_asm)); intro v9 h9 F9 N9 l9; (try k_lt l9); (try k_sweep)))
local macro_rules | `(tactic| walk_at "call type:list") => `(tactic| ((with_reducible show wpAny _ _ (call (Value.type _) [Value.ref _]) _ _ _); k_dflt (first | (refine' listKeys (a := 57) ?K ?hh ?F ?N ?hv ?_; (case K => exact map57 (by k_asm)); (case hh => exact rfl); (case F => k_asm); (case N => k_asm); (case hv => k_mem)) | (refine' listKeys (a := 58) ?K ?hh ?F ?N ?hv ?_; (case K => exact map58 (by k_asm)); (case hh => exact rfl); (case F => k_asm); (case N => k_asm); (case hv => k_mem))); intro B9 c9 h9 tk9 t91 t92 t93 t94 t95 t96 t97 t98 F9 N9 l9; (try k_lt l9); (try k_sweep)))
local macro_rules | `(tactic| walk_at "binaryOp Mod str ref") => `(tactic| (k_dflt (first | (refine' modL (Y := F1) ?e meetsL ?hg ?hu ?F ?N ?hB ?_; (case e => decide +kernel); (case hg => exact rfl); (case hu => ((show _ < 9900); ktr_unf)); (case F => k_asm); (case N => k_asm); (case hB => k_mem)) | (refine' modL (Y := F2) ?e meetsL2 ?hg ?hu ?F ?N ?hB ?_; (case e => decide +kernel); (case hg => exact rfl); (case hu => ((show _ < 9900); ktr_unf)); (case F => k_asm); (case N => k_asm); (case hB => k_mem))); intro h9 tk9 T9 u9 F9 N9; (try k_sweep)))
local macro_rules | `(tactic| walk_at "leaving ref") => `(tactic| (first
  | (refine' leave_raiseS ?k1 ?k0 ?k2 ?k3 ?_; (case k0 => first | assumption | exact Heap.MadeExc.of (by assumption)); (case k2 => assumption); (case k1 => assumption); (case k3 => k_asm); k_whole; intro h' t' S' R' U'; (try dsimp only at S' R' U' ⊢))
  | (refine' leave_onS ?k1 ?k2 ?k3 ?k4 ?_; (case k3 => assumption); (case k2 => assumption); (case k1 => assumption); (case k4 => assumption); k_whole; intro h' S' R' U'; (try dsimp only at S' R' U' ⊢))))

local macro_rules | `(tactic| walk_at "subscriptTail") => `(tactic| ((with_reducible show wpAny _ _ (subscriptTail _ _ (Value.ref (Fx.pool _)) (Value.int ((Fin.val _ : Nat) : Int) _)) _ _ _); k_dflt (refine' item3 (fun j => Value.ref (Fx.loc _ j)) ?N ?m ?_; (case N => k_asm); (case m => k_mem)); (try dsimp only)))
local macro_rules | `(tactic| walk_at "subscriptTail") => `(tactic| ((with_reducible show wpAny _ _ (subscriptTail _ _ (Value.ref (Fx.cells _)) (Value.int ((Fin.val _ : Nat) : Int) _)) _ _ _); k_dflt (refine' item3 (fun j => Value.ref (Fx.c _ j)) ?N ?m ?_; (case N => k_asm); (case m => k_mem)); (try dsimp only)))
local macro_rules | `(tactic| walk_at "subscriptTail") => `(tactic| ((with_reducible show wpAny _ _ (subscriptTail _ _ (Value.ref (Fx.plans _)) (Value.int ((Fin.val _ : Nat) : Int) _)) _ _ _); k_dflt (refine' item2 (fun j => Value.ref (Fx.x _ j)) ?N ?m ?_; (case N => k_asm); (case m => k_mem)); (try dsimp only)))
local macro_rules | `(tactic| walk_at "subscriptTail") => `(tactic| ((with_reducible show wpAny _ _ (subscriptTail _ _ (Value.ref (Fx.picks _)) (Value.int ((Fin.val _ : Nat) : Int) _)) _ _ _); k_dflt (refine' item2 (fun j => Value.ref (Fx.pk _ j)) ?N ?m ?_; (case N => k_asm); (case m => k_mem)); (try dsimp only)))
local macro_rules | `(tactic| walk_at "call builtin:len") => `(tactic| ((with_reducible show wpAny _ _ (call (Value.builtin "len") [Value.ref _]) _ _ _); k_dflt (refine' len_led ?N ?m ?s ?f ?_; (case N => k_asm); (case m => k_mem); (case s => assumption); (case f => assumption)); intro t9 k9))

local macro_rules | `(tactic| k_handed) => `(tactic| exact handed_vO)
local macro_rules | `(tactic| walk_at "eval Name") => `(tactic| (k_dflt (refine' nameX_L ?k1 ?k2 ?_; (case k1 => k_asm); (case k2 => first | assumption | exact rfl | ((simp (decide := true) only [↓reduceIte]); assumption)))))
local macro_rules | `(tactic| walk_at "execs cons") => `(tactic| ((with_reducible show wpAny _ _ (execs (Stmt.For _ _ _ _ _ :: _) _) _ _ _); refine Stop.mk ?_))
section
variable {w : World} {A₀ : Around} {s : Shared} {base h₀ : Heap} {L : Addr} {m : Str → Option Value} {mean : ExcName → Option Value} {mg mb : Str → Option Value}
  {E : Value → Shared → Prop} {Q : Flow → Shared → Prop} {dp un : Nat} {cn : Str} {a : Addr} {ccd : Value}
theorem mid_ok {poolA cellsA drawsA oA : Addr} {oo : Obj} {np nc : Nat} {wv : List Value} {ds : List Int} {r0 r1 r2 : Pc} (B : Below A₀ base [] h₀) (F : Fr h₀ L s.heap m) (X : (hd.heap_39 w.params).In h₀) (T : Top hd.view_39 LO mean mg mb h₀) (XTB : BaseOk w mean mg mb base)
   (hdp : dp + 100 < 1000) (hun : un + 1000 < 9900) (hE : PassesOwn (model PySem.Challenge.rw_eh5030_01.row.prog w) (ktrTop dp un (some []) cn lawSc L a ccd [] []) (envOf cn lawSc L a ccd) E)
   (N : News h₀ L s.heap ((cellsA, listOf #[.ref r0.c, .ref r1.c, .ref r2.c] nc) :: (poolA, listOf #[.ref r0.l.loc, .ref r1.l.loc, .ref r2.l.loc] np) :: (pcNews w r0 ++ (pcNews w r1 ++ (pcNews w r2 ++ [(drawsA, listOf wv.toArray 0), (oA, oo)])))))
   (hI : IntsAre wv ds) (hl1 : 6 ≤ ds.length) (hl2 : ds.length ≤ 10) (hoo : OffT oo) (mp : m (Str.ofString "pool") = some (.ref poolA)) (mc : m (Str.ofString "cells") = some (.ref cellsA)) (md : m (Str.ofString "draws") = some (.ref drawsA)) (mo : m (Str.ofString "offers") = some (.ref oA))
   (h0 : PcOk r0) (h1 : PcOk r1) (h2 : PcOk r2) (o1 : @LT.lt Nat _ poolA cellsA) (o2 : @LT.lt Nat _ cellsA r0.l.dloc) (o3 : @LT.lt Nat _ r0.c r1.l.dloc) (o4 : @LT.lt Nat _ r1.c r2.l.dloc) (oD : @LT.lt Nat _ drawsA poolA) (oO : @LT.lt Nat _ oA poolA)
   (hQ : ∀ (h' : Heap) (tk' : Nat) (m' : Str → Option Value), Fr h₀ L h' m' → Q (.ret (.bool true)) { s with heap := h', toks := tk' }) :
   wpAny (model PySem.Challenge.rw_eh5030_01.row.prog w) (ktrTop dp un (some []) cn lawSc L a ccd [] []) (execs (stAt lawB 5 :: stAt lawB 6 :: [stAt lawB 7, stAt lawB 8, stAt lawB 9]) (envOf cn lawSc L a ccd)) Q E s := by
  refine wpAny_execs_cons ?_
  refine plans_ok B F X T hdp hun N hI hl1 hl2 mp md ?_
  rintro h₁ tk₁ m₁ F₁ ⟨x0, dx0, le0, en, den, x1, dx1, le1, pl, n0, n1, npl, k0, k1, k2, k3, k4, rfl, N₁, q1, q2, q3, q4, q5, q6, q7, q8, q9⟩
  generalize hlst : [stAt lawB 7, stAt lawB 8, stAt lawB 9] = tl
  revert hE
  conv =>
    pattern (occs := *) (stAt _ _)
    all_goals whnf
  conv =>
    pattern (occs := *) lawSc
    all_goals whnf
  intro hE
  obtain ⟨big, hbig, N₂⟩ : ∃ big, big = _ ∧ News h₀ L h₁ big := ⟨_, rfl, N₁⟩
  clear N₁ N
  k_steps
  rename_i pa h₃ la pb h₄ lb pk h₅ lk h₆ F₆ N₆
  subst hbig
  subst hlst
  have lp : @LT.lt Nat _ pl pa := la (pl, _) (.head _)
  have l5 : @LT.lt Nat _ r2.c dx0 := q1 (r2.c, _) (.tail _ (.tail _ (List.mem_append_right _ (List.mem_append_right _ (List.mem_append_left _ (.head _))))))
  have z1 : @LT.lt Nat _ dx0 x0 := q2
  have z2 : @LT.lt Nat _ x0 le0 := q3
  have z3 : @LT.lt Nat _ le0 den := q4
  have z4 : @LT.lt Nat _ den en := q5
  have z5 : @LT.lt Nat _ en dx1 := q6
  have z6 : @LT.lt Nat _ dx1 x1 := q7
  have z7 : @LT.lt Nat _ x1 le1 := q8
  have NB := news_drop 3 N₆
  have NC := news_drop 9 NB
  have NR := news_drop 2 NC
  obtain ⟨f, v, O, Bd, I, NW, hR, hlen, e1, e2, e3, e4⟩ := start_wd (w := w) (r0 := r0) (r1 := r1) (r2 := r2) (R := [(drawsA, listOf wv.toArray 0), (oA, oo)])
    (news_sub NC (fun p hp => List.mem_append_left _ hp)) (news_sub NR (fun p hp => List.mem_append_left _ hp)) (news_sub NR (fun p hp => List.mem_append_right _ (List.mem_append_left _ hp))) (news_sub NR (fun p hp => List.mem_append_right _ (List.mem_append_right _ (List.mem_append_left _ hp)))) (news_sub NR (fun p hp => List.mem_append_right _ (List.mem_append_right _ (List.mem_append_right _ hp))))
    (news_sub NB (fun p hp => List.mem_append_left _ hp)) (List.forall_mem_cons.mpr ⟨N₆ _ (.head _), List.forall_mem_cons.mpr ⟨N₆ _ (.tail _ (.tail _ (.head _))), List.forall_mem_cons.mpr ⟨N₆ _ (.tail _ (.head _)), List.forall_mem_nil _⟩⟩⟩)
    h0 h1 h2 o1 o2 o3 o4 l5 (by omega) (by omega) (by omega) q9 lp lb.1 lk.1 (fun p hp => by
      simp only [List.mem_cons, List.not_mem_nil, or_false] at hp
      rcases hp with rfl | rfl
      · exact oD
      · exact oO)
  refine tail_ok (f := f) (v := v) (R := [(drawsA, listOf wv.toArray 0), (oA, oo)]) (oA := oA) (drawsA := drawsA) (oo := oo) (wv := wv) (ds := ds) B F₆ X T XTB hdp hun hE O Bd NW hR I ⟨?_, ?_, ?_, ?_, ?_⟩ hlen (.tail _ (.head _)) hoo ?_ (.head _) hI hl1 hl2 ?_
  · rw [e1]; exact (if_neg (by decide)).trans ((if_neg (by decide)).trans mp)
  · rw [e2]; exact (if_neg (by decide)).trans ((if_neg (by decide)).trans mc)
  · rw [e3]; exact (if_neg (by decide)).trans (if_pos rfl)
  · rw [e4]; exact if_pos rfl
  · exact (if_neg (by decide)).trans ((if_neg (by decide)).trans mo)
  · exact (if_neg (by decide)).trans ((if_neg (by decide)).trans md)
  · intro h' tk' m' F'
    exact hQ _ _ _ F'
end
end Mine
namespace Mine
open PySem PySem.Calls PySem.Spec
theorem rs_Z1 : True := by w_top off; trivial
local macro_rules | `(tactic| ktr_enter) => `(tactic| (
  refine' enterK ?k1 ?k2 ?k3 ?k4 ?k5 ?kA ?kF ?kK ?k6 ?k7 ?k8 ?k9 ?kB ?_ ?c5 ?c2 ?c3 ?c4;
  (case kA => exact rfl); (case kF => exact rfl); (case kK => first | assumption | exact rfl); (case k1 => assumption); (case k2 => assumption); (case k3 => assumption); (case k4 => assumption); (case k5 => assumption);
  (case k6 => k_is); (case k7 => k_is); (case k8 => first | (simp only [recursionLimit]; omega) | ktr_room); (case k9 => first | exact BindsTo.of_eq rfl | exact binds_K (by k_in) rfl (by k_is) rfl rfl rfl); (case c5 => decide); (case kB => exact locs rfl); (case c2 => exact rfl); (case c3 => exact rfl); (case c4 => exact rfl)))
local macro_rules | `(tactic| walk_at "subscriptTail") => `(tactic| ((with_reducible show wpAny _ _ (subscriptTail _ _ (Value.ref 58) (Value.int _ _)) _ _ _); k_dflt (refine' item58 ?F ?X ?h ?_; (case F => k_asm); (case X => k_asm); (case h => assumption)); intro t'))
local macro_rules | `(tactic| walk_at "subscriptTail") => `(tactic| ((with_reducible show wpAny _ _ (subscriptTail _ _ (Value.ref 57) (Value.int _ _)) _ _ _); k_dflt (refine' item57 ?F ?X ?h ?_; (case F => k_asm); (case X => k_asm); (case h => assumption)); intro t'))
local macro_rules | `(tactic| walk_at "compareOp NotIn int ref") => `(tactic| ((with_reducible show wpAny _ _ (compareOp CmpOp.NotIn (Value.int _ _) (Value.ref 58)) _ _ _); k_dflt (refine' notin58 ?F ?X ?_; (case F => k_asm); (case X => k_asm))))
local macro_rules | `(tactic| walk_at "compareOp NotIn int ref") => `(tactic| ((with_reducible show wpAny _ _ (compareOp CmpOp.NotIn (Value.int _ _) (Value.ref 57)) _ _ _); k_dflt (refine' notin57 ?F ?X ?_; (case F => k_asm); (case X => k_asm))))
local macro_rules | `(tactic| walk_at "binaryOp LShift int int") => `(tactic| (refine lshift_int_small (by decide) (by decide) (by omega) ?_))
local macro_rules | `(tactic| walk_at "call builtin:_struct.pack") => `(tactic| ((with_reducible show wpAny _ _ (call (Value.builtin _) [Value.str _ _, Value.int _ _]) _ _ _); k_dflt (first | (refine' pack_B ?h0 ?h1 ?_; (case h0 => omega); (case h1 => omega)) | (refine' pack_q ?h0 ?h1 ?_; (case h0 => omega); (case h1 => omega))); intro t'))
local macro_rules | `(tactic| ktr_rel) => `(tactic| exact back_led (by assumption) (by assumption) (by assumption) (by assumption) (by assumption) (fun p hp => .inr hp))
local macro_rules | `(tactic| ktr_unf) => `(tactic| first | omega | ((try dsimp only [Around.deeper, Around.in1, Around.mark]); (try simp only [dU, uU]); (try dsimp only [ktrTop, Around.deeper, Around.in1, Around.mark]); omega))
local macro_rules | `(tactic| k_enter) => `(tactic| (ktr_enter; intro g' L' h' kg' lL' FG' F' N' B' X' T'; (try dsimp only); (try k_fold)))
local macro_rules | `(tactic| walk_at "call ref") => `(tactic| (k_here; k_dflt (refine' call_clsK ?k1 ?k2 ?k3 ?k4 ?k5 ?k6 ?_; (case k1 => k_asm); (case k2 => k_asm); (case k3 => k_asm); (case k4 => k_is); (case k5 => k_is); (case k6 => k_is); k_whole; intro x' d' h' x1 l1 l2 F' N'; (try ((have l9 := news_lt (by assumption) l1); (k_lt l9))); (try k_lt2 l1); (try k_lt2 l2); (try k_sweep); k_enter)))

local macro_rules | `(tactic| walk_at "getMethod ref") => `(tactic| ((with_reducible show wpAny _ _ (getMethod (Value.ref 57) (Str.ofString "keys") _) _ _ _); k_dflt (refine' getKeys (D := D8) ?K ?F ?_; (case K => exact map57 (by k_asm)); (case F => k_asm))))
local macro_rules | `(tactic| walk_at "getMethod ref") => `(tactic| ((with_reducible show wpAny _ _ (getMethod (Value.ref 58) (Str.ofString "keys") _) _ _ _); k_dflt (refine' getKeys (D := D8) ?K ?F ?_; (case K => exact map58 (by k_asm)); (case F => k_asm))))
local macro_rules | `(tactic| walk_at "call builtin:dict.keys") => `(tactic| ((with_reducible show wpAny _ _ (call (Value.builtin "dict.keys") [Value.ref 57]) _ _ _); k_dflt (refine' callKeys (D := D8) ?K ?F ?N ?_; (case K => exact map57 (by k_asm)); (case F => k_asm); (case N => k_asm)); intro v9 h9 F9 N9 l9; (try k_lt l9); (try k_sweep)))
local macro_rules | `(tactic| walk_at "call builtin:dict.keys") => `(tactic| ((with_reducible show wpAny _ _ (call (Value.builtin "dict.keys") [Value.ref 58]) _ _ _); k_dflt (refine' callKeys (D := D8) ?K ?F ?N ?_; (case K => exact map58 (by k_asm)); (case F => k_asm); (case N => k_asm)); intro v9 h9 F9 N9 l9; (try k_lt l9); (try k_sweep)))
local macro_rules | `(tactic| walk_at "call type:list") => `(tactic| ((with_reducible show wpAny _ _ (call (Value.type _) [Value.ref _]) _ _ _); k_dflt (first | (refine' listKeys (a := 57) ?K ?hh ?F ?N ?hv ?_; (case K => exact map57 (by k_asm)); (case hh => exact rfl); (case F => k_asm); (case N => k_asm); (case hv => k_mem)) | (refine' listKeys (a := 58) ?K ?hh ?F ?N ?hv ?_; (case K => exact map58 (by k_asm)); (case hh => exact rfl); (case F => k_asm); (case N => k_asm); (case hv => k_mem))); intro B9 c9 h9 tk9 t91 t92 t93 t94 t95 t96 t97 t98 F9 N9 l9; (try k_lt l9); (try k_sweep)))
local macro_rules | `(tactic| walk_at "binaryOp Mod str ref") => `(tactic| (k_dflt (first | (refine' modL (Y := F1) ?e meetsL ?hg ?hu ?F ?N ?hB ?_; (case e => decide +kernel); (case hg => exact rfl); (case hu => ((show _ < 9900); ktr_unf)); (case F => k_asm); (case N => k_asm); (case hB => k_mem)) | (refine' modL (Y := F2) ?e meetsL2 ?hg ?hu ?F ?N ?hB ?_; (case e => decide +kernel); (case hg => exact rfl); (case hu => ((show _ < 9900); ktr_unf)); (case F => k_asm); (case N => k_asm); (case hB => k_mem))); intro h9 tk9 T9 u9 F9 N9; (try k_sweep)))
local macro_rules | `(tactic| walk_at "leaving ref") => `(tactic| (first
  | (refine' leave_raiseS ?k1 ?k0 ?k2 ?k3 ?_; (case k0 => first | assumption | exact Heap.MadeExc.of (by assumption)); (case k2 => assumption); (case k1 => assumption); (case k3 => k_asm); k_whole; intro h' t' S' R' U'; (try dsimp only at S' R' U' ⊢))
  | (refine' leave_onS ?k1 ?k2 ?k3 ?k4 ?_; (case k3 => assumption); (case k2 => assumption); (case k1 => assumption); (case k4 => assumption); k_whole; intro h' S' R' U'; (try dsimp only at S' R' U' ⊢))))

local macro_rules | `(tactic| walk_at "subscriptTail") => `(tactic| ((with_reducible show wpAny _ _ (subscriptTail _ _ (Value.ref (Fx.pool _)) (Value.int ((Fin.val _ : Nat) : Int) _)) _ _ _); k_dflt (refine' item3 (fun j => Value.ref (Fx.loc _ j)) ?N ?m ?_; (case N => k_asm); (case m => k_mem)); (try dsimp only)))
local macro_rules | `(tactic| walk_at "subscriptTail") => `(tactic| ((with_reducible show wpAny _ _ (subscriptTail _ _ (Value.ref (Fx.cells _)) (Value.int ((Fin.val _ : Nat) : Int) _)) _ _ _); k_dflt (refine' item3 (fun j => Value.ref (Fx.c _ j)) ?N ?m ?_; (case N => k_asm); (case m => k_mem)); (try dsimp only)))
local macro_rules | `(tactic| walk_at "subscriptTail") => `(tactic| ((with_reducible show wpAny _ _ (subscriptTail _ _ (Value.ref (Fx.plans _)) (Value.int ((Fin.val _ : Nat) : Int) _)) _ _ _); k_dflt (refine' item2 (fun j => Value.ref (Fx.x _ j)) ?N ?m ?_; (case N => k_asm); (case m => k_mem)); (try dsimp only)))
local macro_rules | `(tactic| walk_at "subscriptTail") => `(tactic| ((with_reducible show wpAny _ _ (subscriptTail _ _ (Value.ref (Fx.picks _)) (Value.int ((Fin.val _ : Nat) : Int) _)) _ _ _); k_dflt (refine' item2 (fun j => Value.ref (Fx.pk _ j)) ?N ?m ?_; (case N => k_asm); (case m => k_mem)); (try dsimp only)))
local macro_rules | `(tactic| walk_at "call builtin:len") => `(tactic| ((with_reducible show wpAny _ _ (call (Value.builtin "len") [Value.ref _]) _ _ _); k_dflt (refine' len_led ?N ?m ?s ?f ?_; (case N => k_asm); (case m => k_mem); (case s => assumption); (case f => assumption)); intro t9 k9))

local macro_rules | `(tactic| walk_at "exec For") => `(tactic| refine Stop.mk ?_)
local macro_rules | `(tactic| walk_at "exec For Name Call cons nil") => `(tactic| refine Stop.mk ?_)
local macro_rules | `(tactic| walk_at "exec For Name Subscript cons nil") => `(tactic| refine Stop.mk ?_)
local macro_rules | `(tactic| walk_at "binaryOp Add ref ref") => `(tactic| ((with_reducible show wpAny _ _ (binaryOp _ (Value.ref _) (Value.ref _)) _ _ _); k_dflt (refine' kmk_add_ints ?F ?N ?a ?b ?i ?j ?_ ?z; (case F => k_asm); (case N => k_asm); (case a => kmk_list); (case b => kmk_list); (case i => l_ints); (case j => l_ints); (case z => (simp only [sizeLine_eq, List.length_cons, List.length_nil]; omega))); intro D' ws' h' F' N' l1 hI'; (try k_lt l1); (try k_sweep)))
local macro_rules | `(tactic| walk_at "subscriptTail") => `(tactic| ((with_reducible show wpAny _ _ (subscriptTail _ (PySem.Expr.Slice _ _ none _) (Value.ref _) (Value.ref _)) _ _ _); k_dflt (refine' kmk_slice_ints ?F ?N ?l ?p ?q ?i ?m ?c ?_ ?s ?t ?z; (case F => k_asm); (case N => k_asm); (case l => kmk_list); (case p => kmk_part); (case q => kmk_part); (case i => l_ints); (case m => kmk_nums); (case c => kmk_len); (case s => with_unfolding_all rfl); (case t => kmk_pure); (case z => (refine kmk_sz (by l_ints) ?_; (simp only [sizeLine_eq, List.length_append, List.length_cons, List.length_nil]; omega)))); intro D' ws' h' F' N' l1 hI' hC' hL'; (try simp only [Int.reduceNeg, Int.neg_neg, Int.reduceToNat] at hI' hC' hL'); (try k_lt l1); (try k_sweep)))
local macro_rules | `(tactic| walk_at "subscriptTail Name Slice ref ref") => `(tactic| ((with_reducible show wpAny _ _ (subscriptTail _ (PySem.Expr.Slice _ _ none _) (Value.ref _) (Value.ref _)) _ _ _); k_dflt (refine' kmk_slice_ints ?F ?N ?l ?p ?q ?i ?m ?c ?_ ?s ?t ?z; (case F => k_asm); (case N => k_asm); (case l => kmk_list); (case p => kmk_part); (case q => kmk_part); (case i => l_ints); (case m => kmk_nums); (case c => kmk_len); (case s => with_unfolding_all rfl); (case t => kmk_pure); (case z => (refine kmk_sz (by l_ints) ?_; (simp only [sizeLine_eq, List.length_append, List.length_cons, List.length_nil]; omega)))); intro D' ws' h' F' N' l1 hI' hC' hL'; (try simp only [Int.reduceNeg, Int.neg_neg, Int.reduceToNat] at hI' hC' hL'); (try k_lt l1); (try k_sweep)))
local macro_rules | `(tactic| walk_at "subscriptTail BinOp Slice ref ref") => `(tactic| ((with_reducible show wpAny _ _ (subscriptTail _ (PySem.Expr.Slice _ _ none _) (Value.ref _) (Value.ref _)) _ _ _); k_dflt (refine' kmk_slice_ints ?F ?N ?l ?p ?q ?i ?m ?c ?_ ?s ?t ?z; (case F => k_asm); (case N => k_asm); (case l => kmk_list); (case p => kmk_part); (case q => kmk_part); (case i => l_ints); (case m => kmk_nums); (case c => kmk_len); (case s => with_unfolding_all rfl); (case t => kmk_pure); (case z => (refine kmk_sz (by l_ints) ?_; (simp only [sizeLine_eq, List.length_append, List.length_cons, List.length_nil]; omega)))); intro D' ws' h' F' N' l1 hI' hC' hL'; (try simp only [Int.reduceNeg, Int.neg_neg, Int.reduceToNat] at hI' hC' hL'); (try k_lt l1); (try k_sweep)))
local macro_rules | `(tactic| walk_at "subscriptTail") => `(tactic| ((fail_if_success (with_reducible show wpAny _ _ (subscriptTail (PySem.Expr.Name _ _) _ _ _) _ _ _)); k_dflt (refine kba_turn (value' := PySem.Expr.Name (PySem.Str.ofString "_") ⟨0, 0, 0, 0⟩) (fun _ => rfl) ?_)))
local macro_rules | `(tactic| walk_at "subscriptTail BinOp Slice ref ref") => `(tactic| ((fail_if_success (with_reducible show wpAny _ _ (subscriptTail (PySem.Expr.Name _ _) _ _ _) _ _ _)); k_dflt (refine kba_turn (value' := PySem.Expr.Name (PySem.Str.ofString "_") ⟨0, 0, 0, 0⟩) (fun _ => rfl) ?_)))
local macro_rules | `(tactic| k_handed) => `(tactic| exact handed_vO)
local macro_rules | `(tactic| walk_at "subscriptTail") => `(tactic| ((with_reducible show wpAny _ _ (subscriptTail _ _ (Value.ref _) (Value.int (Int.fmod _ 5) _)) _ _ _); k_dflt (refine kba_turn (value' := PySem.Expr.Name (PySem.Str.ofString "_") ⟨0, 0, 0, 0⟩) (fun _ => rfl) ?_; refine' tup5 ?N ?m ?a ?b ?h ?_; (case N => k_asm); (case m => k_mem); (case a => rfl); (case b => rfl); (case h => exact fun _ _ => by with_unfolding_all rfl)); intro lo9 t9 hlo9))
local macro_rules | `(tactic| walk_at "call ref") => `(tactic| ((try dsimp only [List.cons_append, List.nil_append]); (with_reducible show wpAny _ _ (call (Value.ref 273) [Value.int _ _, Value.int (1 + Int.fmod _ 6) _]) _ _ _); k_dflt (refine' number_b ?B ?F ?X ?T ?hk ?hd ?hu ?h1 ?h2 ?_; (case B => k_asm); (case F => k_asm); (case X => k_asm); (case T => k_asm); (case hk => first | exact rfl | assumption); (case hd => ktr_unf); (case hu => ktr_unf); (case h1 => exact (w6 _).1); (case h2 => exact (w6 _).2)); intro v9 h9 t9 tk9 hv1 hv2 K9; (have N9 := K9.news0 (by assumption)); (have F9 := K9.fr)))
local macro_rules | `(tactic| walk_at "call ref") => `(tactic| ((try dsimp only [List.cons_append, List.nil_append]); (with_reducible show wpAny _ _ (call (Value.ref 273) [Value.int _ _, Value.int (1 + Int.fmod _ 7) _]) _ _ _); k_dflt (refine' number_b ?B ?F ?X ?T ?hk ?hd ?hu ?h1 ?h2 ?_; (case B => k_asm); (case F => k_asm); (case X => k_asm); (case T => k_asm); (case hk => first | exact rfl | assumption); (case hd => ktr_unf); (case hu => ktr_unf); (case h1 => exact (w7 _).1); (case h2 => exact (w7 _).2)); intro v9 h9 t9 tk9 hv1 hv2 K9; (have N9 := K9.news0 (by assumption)); (have F9 := K9.fr)))
local macro_rules | `(tactic| walk_at "call ref") => `(tactic| ((try dsimp only [List.cons_append, List.nil_append]); (with_reducible show wpAny _ _ (call (Value.ref 266) [Value.int _ _]) _ _ _); k_dflt (refine' octets_ok ?B ?F ?X ?T ?hk ?hd ?hu ?h1 ?_; (case B => k_asm); (case F => k_asm); (case X => k_asm); (case T => k_asm); (case hk => first | exact rfl | assumption); (case hd => ktr_unf); (case hu => ktr_unf); (case h1 => assumption)); intro h9 t9 tk9 K9; (have N9 := K9.news0 (by assumption)); (have F9 := K9.fr)))
local macro_rules | `(tactic| walk_at "call ref") => `(tactic| ((with_reducible show wpAny _ _ (call (Value.ref 157) _ _) _ _ _); refine Stop.mk ?_))
local macro_rules | `(tactic| walk_at "call builtin:list.append") => `(tactic| refine Stop.mk ?_)
local macro_rules | `(tactic| walk_at "pyIter ref") => `(tactic| refine Stop.mk ?_)
local macro_rules | `(tactic| walk_at "eval Name") => `(tactic| (k_dflt (refine' nameX_L ?k1 ?k2 ?_; (case k1 => k_asm); (case k2 => first | assumption | exact rfl | ((simp (decide := true) only [↓reduceIte]); assumption)))))
local macro_rules | `(tactic| walk_at "execs cons") => `(tactic| ((with_reducible show wpAny _ _ (execs (Stmt.Assign _ (Expr.Subscript _ (Expr.Slice _ _ _ _) _) _ :: _) _) _ _ _); refine Stop.mk ?_))
local macro_rules | `(tactic| walk_at "execs cons") => `(tactic| ((with_reducible show wpAny _ _ (execs (Stmt.Assign _ (Expr.List [] _) _ :: _) _) _ _ _); refine Stop.mk ?_))
local macro_rules | `(tactic| walk_at "execs cons") => `(tactic| ((with_reducible show wpAny _ _ (execs (Stmt.Assign _ (Expr.List (Expr.IfExp _ _ _ _ :: _) _) _ :: _) _) _ _ _); refine Stop.mk ?_))
local macro_rules | `(tactic| walk_at "call ref") => `(tactic| ((with_reducible show wpAny _ _ (call (Value.ref 255) _ _) _ _ _); refine Stop.mk ?_))
theorem law_env (n : Str) (sc : Scope) (L a : Addr) (cd : Value) : callerA.deeper (envOf n sc L a cd) = ktrTop 302 7 (some []) n sc L a cd [] [] := rfl
theorem law0 : PySem.Challenge.rw_eh5030_01.Holds := hd (by
  k_go0
  rename World => w
  (try (rename Dflts _ _ _ => z9; clear z9))
  (try (rename Heap.CodeRec _ _ _ => z9; clear z9))
  (try (rename TopW _ _ _ => z9; clear z9))
  (try (rename TopE _ _ _ _ => z9; clear z9))
  (try (rename BMod _ _ _ _ _ => z9; clear z9))
  (try (rename Tables _ _ _ _ => z9; clear z9))
  (try (rename Reads _ _ _ _ => z9; clear z9))
  (try (rename Well _ _ _ _ => z9; clear z9))
  (try (rename ReadsAllW _ _ _ _ _ _ => z9; clear z9))
  (try (rename Glob _ _ _ _ _ _ _ _ => z9; clear z9))
  rename Top _ _ _ _ _ _ => T
  rename Below _ _ _ _ => B
  rename Frag.In _ _ => X
  rename Fr _ _ _ _ => F
  rename News _ _ _ _ => N
  rename IntsAre _ _ => hI
  have XTB : BaseOk w _ _ _ _ := ⟨X, T⟩
  rw [law_env]
  k_steps
  refine Stop.of ?_
  refine wpAny_execs_cons ?_
  k_steps
  refine Stop.of ?_
  rename Addr => drawsA
  rename List Value => wv
  refine wpAny_execs_cons ?_
  k_steps
  refine Stop.of ?_
  rename_i offersA yb ya y0 y1 y2 y3 y4 y5 y6 y7 y8 y9 y10 y11 y12 y13 y14 y15 y16 y17 y18 y19 y20 z0 poolA z2 z3 z4 cellsA z6 z7 z8 z9 z10
  rename IntsAre _ (List.take 10 (_ ++ _)) => hD
  generalize hds : List.take 10 (_ ++ _) = ds at *
  rename Shared => s₁
  have hlen1 : 6 ≤ ds.length := by
    rw [← hds, List.length_take, List.length_append, List.length_take]
    simp only [List.length_cons, List.length_nil]
    omega
  have hlen2 : ds.length ≤ 10 := by rw [← hds]; exact List.length_take_le _ _
  clear hds
  obtain ⟨oo, N5, hoT⟩ : ∃ oo, News s₁.heap s₁.heap.objs.size z8 [(cellsA, listOf #[] 0), (poolA, listOf #[] 0), (drawsA, listOf wv.toArray 0), (offersA, oo)] ∧ OffT oo :=
    ⟨_, news4 (by assumption) (by k_mem) (by k_mem) (by k_mem) (by k_mem), ⟨_, _, _, _, _, _, _, _, _, _, _, rfl⟩⟩
  refine' For_invV s₁.heap rfl rfl ?_
  k_steps
  refine Stop.of ?_
  refine' forRange (L := s₁.heap.objs.size) (n := 3) ?hL ?hh ?hr ?hsm ?hn ?F ?N (MkJ w poolA cellsA drawsA offersA [(drawsA, listOf wv.toArray 0), (offersA, oo)]) ?h0 ?step ?done
  case hL => rfl
  case hh => rfl
  case hr => assumption
  case hsm => decide
  case hn => rfl
  case F => assumption
  case N => assumption
  case h0 => exact ⟨[], 0, 0, rfl, rfl, (fun p hp => nomatch hp), List.Pairwise.nil, rfl, rfl, rfl, rfl⟩
  case step =>
    rintro i t m₁ news₁ h₂ tk₂ own hi ⟨ps, np, nc, hps, hnw, hok, hpw, e1, e2, e3, e4⟩ hof hI hown ⟨oI, hoI⟩ F₂ N₂
    subst hnw
    have hi6 : (i : Int) < ds.length := by omega
    have hi0 : 0 ≤ (i : Int) := by omega
    have hpc : @LT.lt Nat _ poolA cellsA := z7.1
    have hdp9 : @LT.lt Nat _ drawsA poolA := z3.1
    have hop9 : @LT.lt Nat _ offersA poolA := by have := z3.2.2.2.2; omega
    have hfp := hof (poolA, _) (.tail _ (.head _))
    have hfc := hof (cellsA, _) (.head _)
    have hap : ∀ q ∈ own ++ (ps.flatMap (pcNews w) ++ [(drawsA, listOf wv.toArray 0), (offersA, oo)]), @Ne Nat q.1 poolA ∧ @Ne Nat q.1 cellsA := fun q hq => by
      rcases List.mem_append.mp hq with hq | hq
      · have h1 := hown q hq
        rw [← h1] at hfp hfc
        dsimp only at hfp hfc
        omega
      rcases List.mem_append.mp hq with hq | hq
      · obtain ⟨p9, hp9, hq9⟩ := List.mem_flatMap.mp hq
        have h1 := (hok p9 hp9).2
        have h2 := pc_gt (hok p9 hp9).1 hq9
        omega
      · simp only [List.mem_cons, List.not_mem_nil, or_false] at hq
        rcases hq with rfl | rfl <;> dsimp only <;> omega
    have N₃ := news_app (news_sub (b := [(cellsA, listOf (cellsV ps) nc), (poolA, listOf (poolV ps) np), (drawsA, listOf wv.toArray 0)]) N₂ (by
      exact List.forall_mem_cons.mpr ⟨List.mem_append_right _ (.head _), List.forall_mem_cons.mpr ⟨List.mem_append_right _ (.tail _ (.head _)), List.forall_mem_cons.mpr ⟨List.mem_append_right _ (.tail _ (.tail _ (List.mem_append_right _ (.head _)))), List.forall_mem_nil _⟩⟩⟩)) N₂
    simp only [List.cons_append, List.nil_append] at N₃
    k_steps
    refine Stop.of ?_
    refine' mkLoc_ok ?B ?F ?X ?T rfl (by decide) (by decide) ?a1 ?a2 ?s1 ?s2 ?hl ?hh ?hQ
    case B => assumption
    case F => assumption
    case X => assumption
    case T => assumption
    case a1 => assumption
    case a2 => assumption
    case s1 => assumption
    case s2 => assumption
    case hl => assumption
    case hh => assumption
    intro xL dxL alL dalL q0 q1 q2 q3 q4 q5 q6 uu vv hL tkL KL r1 r2 r3 r4 NL
    have hltL := news_lt (by assumption) r1
    have N₄ := news_app NL (KL.news0 (by assumption))
    have F₄ := KL.fr
    simp only [List.cons_append, List.nil_append] at N₄
    k_steps
    refine Stop.of ?_
    refine' append_led ?Fa ?Na ?hDa ?hsza ?ha
    case Fa => assumption
    case Na => assumption
    case hDa => k_mem
    case hsza => rw [List.size_toArray, List.length_map]; omega
    intro hP KP NP
    have gp : @LT.lt Nat _ cellsA dxL := hltL (cellsA, _) (by k_mem)
    have gI0 : ∀ z ∈ own, @LT.lt Nat _ z.1 dxL := fun z hz => hltL z (by repeat (first | exact List.mem_append_left _ hz | refine List.Mem.tail _ ?_))
    have gI := gI0 _ hoI
    dsimp only at gI
    have gF : ∀ z ∈ ps.flatMap (pcNews w), @LT.lt Nat _ z.1 dxL := fun z hz => hltL z (by repeat (first | exact List.mem_append_right _ (.tail _ (.tail _ (List.mem_append_left _ hz))) | refine List.Mem.tail _ ?_))
    have v1 : @LT.lt Nat _ dxL xL := r2
    have v2 : @LT.lt Nat _ xL dalL := r3
    have v3 : @LT.lt Nat _ dalL alL := r4
    have NR := news_sub (b := own ++ (ps.flatMap (pcNews w) ++ [(drawsA, listOf wv.toArray 0), (offersA, oo)])) N₄ (fun q hq => by
      repeat (first
        | exact (List.mem_append.mp hq).elim (fun z => List.mem_append_left _ z) (fun z => List.mem_append_right _ (.tail _ (.tail _ z)))
        | refine List.Mem.tail _ ?_))
    have NC := news4 N₄ (a := (xL, _)) (b := (dxL, _)) (c := (alL, _)) (d := (dalL, _)) (by k_mem) (by k_mem) (by k_mem) (by k_mem)
    have ND := news2 N₄ (a := (cellsA, _)) (b := (drawsA, _)) (by k_mem) (by k_mem)
    have N₅ := news_app NP (news_app (KP.news ND (fun q hq => by
      simp only [List.mem_cons, List.not_mem_nil, or_false] at hq
      rw [List.mem_singleton]
      rcases hq with rfl | rfl <;> (show @Ne Nat _ _) <;> dsimp only <;> omega)) (news_app (KP.news NC (fun q hq => by
      simp only [List.mem_cons, List.not_mem_nil, or_false] at hq
      rw [List.mem_singleton]
      rcases hq with rfl | rfl | rfl | rfl <;> (show @Ne Nat _ _) <;> dsimp only <;> omega)) (KP.news NR (fun q hq => by
      rw [List.mem_singleton]
      exact (hap q hq).1))))
    simp only [List.cons_append, List.nil_append] at N₅
    have F₅ := KP.fr
    k_steps
    refine Stop.of ?_
    rename_i cA hcA FcA NcA lcA
    refine' append_led FcA NcA ?hDb ?hszb ?hb
    case hDb => k_mem
    case hszb => rw [List.size_toArray, List.length_map]; omega
    intro hC KC NC2
    obtain ⟨c1, c2, c3, c4, c5, c6, c7, _⟩ := lcA
    have NP2 := KC.news (news1 NcA (a := (poolA, _)) (by k_mem)) (fun q hq => by
      rw [List.mem_singleton] at hq ⊢
      subst hq
      show @Ne Nat _ _
      dsimp only
      omega)
    have NR2 := KC.news (news_sub (b := own ++ (ps.flatMap (pcNews w) ++ [(drawsA, listOf wv.toArray 0), (offersA, oo)])) NcA (fun q hq => by repeat (first | exact hq | refine List.Mem.tail _ ?_))) (fun q hq => by
      rw [List.mem_singleton]
      exact (hap q hq).2)
    have N2 : News s₁.heap s₁.heap.objs.size hC (pcNews w ⟨⟨xL, dxL, alL, dalL, _, _, _, _, q0, q1, q2, q3, q4, _, _, _, _, q5, q6, uu, vv⟩, cA, 0, _, _, _, _, _, _⟩) := KC.news (news5 NcA (by k_mem) (by k_mem) (by k_mem) (by k_mem) (by k_mem)) (fun q hq => by
      simp only [List.mem_cons, List.not_mem_nil, or_false] at hq
      rw [List.mem_singleton]
      rcases hq with rfl | rfl | rfl | rfl | rfl <;> (show @Ne Nat _ _) <;> dsimp only <;> omega)
    have NF := mk_news (news_app NC2 NP2) N2 NR2
    have FF := KC.fr
    k_steps
    refine' ⟨.inl rfl, hC, _, _, _, rfl, ?Ft, NF, ?ot, ps ++ [_], np + 1, nc + 1, ?j1, rfl, ?j2, ?j3, ?j4, ?j5, ?j6, ?j7⟩
    case Ft => assumption
    case j1 => rw [List.length_append, hps]; rfl
    case j2 =>
      intro p hp
      rcases List.mem_append.mp hp with hp | hp
      · exact hok p hp
      · obtain rfl := List.mem_singleton.mp hp
        refine ⟨⟨?_, ?_, ?_, ?_, ?_, ?_, v1, v2, v3, c6⟩, gp⟩ <;> assumption
    case j3 =>
      refine List.pairwise_append.mpr ⟨hpw, List.pairwise_singleton _ _, fun p hp q hq => ?_⟩
      obtain rfl := List.mem_singleton.mp hq
      exact gF (p.c, _) (List.mem_flatMap.mpr ⟨p, hp, .head _⟩)
    case j4 => (simp (decide := true) only [↓reduceIte]); assumption
    case j5 => (simp (decide := true) only [↓reduceIte]); assumption
    case j6 => (simp (decide := true) only [↓reduceIte]); assumption
    case j7 => (simp (decide := true) only [↓reduceIte]); assumption
    case ot =>
      intro q hq
      rcases List.mem_cons.mp hq with rfl | hq
      · exact hfc
      rcases List.mem_cons.mp hq with rfl | hq
      · exact hfp
      rcases List.mem_append.mp hq with hq | hq
      · rw [List.flatMap_append, List.mem_append] at hq
        rcases hq with hq | hq
        · exact hof q (.tail _ (.tail _ (List.mem_append_left _ hq)))
        · rw [List.flatMap_cons, List.flatMap_nil, List.append_nil] at hq
          right
          simp only [List.mem_cons, List.not_mem_nil, or_false] at hq
          rcases hq with rfl | rfl | rfl | rfl | rfl <;> dsimp only <;> omega
      · exact hof q (.tail _ (.tail _ (List.mem_append_right _ hq)))
  case done =>
    rintro h₃ tk₃ m₃ news₃ F₃ N₃ ⟨ps, np, nc, hps, hnw, hok, hpw, e1, e2, e3, e4⟩
    subst hnw
    obtain ⟨r0, r1, r2, rfl⟩ : ∃ r0 r1 r2, ps = [r0, r1, r2] := by
      match ps, hps with
      | [a, b, c], _ => exact ⟨a, b, c, rfl⟩
    obtain ⟨ok0, oc0⟩ := hok r0 (.head _)
    obtain ⟨ok1, oc1⟩ := hok r1 (.tail _ (.head _))
    obtain ⟨ok2, oc2⟩ := hok r2 (.tail _ (.tail _ (.head _)))
    have hp2 := List.pairwise_cons.mp hpw
    have op1 := hp2.1 r1 (.head _)
    have op2 := (List.pairwise_cons.mp hp2.2).1 r2 (.head _)
    have hpc : @LT.lt Nat _ poolA cellsA := z7.1
    have hdp9 : @LT.lt Nat _ drawsA poolA := z3.1
    have hop9 : @LT.lt Nat _ offersA poolA := by have := z3.2.2.2.2; omega
    simp only [List.flatMap_cons, List.flatMap_nil, List.append_nil, List.append_assoc] at N₃
    k_steps
    refine Stop.of ?_
    refine' mid_ok (r0 := r0) (r1 := r1) (r2 := r2) (wv := wv) (ds := ds) (oo := oo) ?B9 ?F9 ?X9 ?T9 XTB ?hdp9 ?hun9 ?hE9 ?N9 hD hlen1 hlen2 hoT e1 e2 e3 e4 ok0 ok1 ok2 hpc oc0 op1 op2 hdp9 hop9 ?hQ9
    case B9 => assumption
    case F9 => assumption
    case X9 => assumption
    case T9 => assumption
    case hdp9 => decide
    case hun9 => decide
    case N9 => assumption
    case hE9 => passes_own
    case hQ9 =>
      intro h' tk' m' F'
      k_steps)
end Mine
theorem PySem.Challenge.cw_eh5030_01_holds : PySem.Challenge.rw_eh5030_01.Holds := by
  exact Mine.law0
