import PyProof.Rows.All
import Wide.All
import OpenK.AllK
import Wide.FinOn
import PySem.Challenge.RW_kl0365_01
open PySem PySem.W PyProof.Rows
set_option Elab.async false
section
open PySem PySem.W PyProof.Rows
namespace Mine
set_option maxRecDepth 100000
set_option maxHeartbeats 8000000
open_top hd for PySem.Challenge.rw_kl0365_01
end Mine
end
section
open PySem PySem.W PyProof.Rows PySem.Calls PySem.Spec
namespace Mine
section
variable {prog : Program} {w : World} {A A₀ : Around} {s : Shared} {K : Frag} {L : Addr} {h₀ base : Heap} {m mg mb : Str → Option Value} {news : List (Addr × Obj)} {p : Program} {loose : List Str} {mean : ExcName → Option Value}
theorem enterP {env : Env} {outer : List Env} {R : Result → Shared → Prop} {name qual : Str} {params : Arguments} {body : List Stmt} {scope : Scope} {cl : List (Str × Addr)} {dV kV doc pm cdv ct oc : Value} {an od : Option Addr} {osl : Array (Option Value)} {f : Addr} {args : Args} {binds : List (Str × Value)}
    (B : Below A₀ base outer h₀) (F : Fr h₀ L s.heap m) (X₀ : K.In h₀) (N : News h₀ L s.heap news) (T : Top p loose mean mg mb h₀) (hA : A.frames = some (env :: outer)) (hf : env.frame = some L) (hke : env.scope.kind = .function)
    (ho : K.lookup f = some ⟨oc, od, .func (fnX name qual params body scope cl dV kV doc pm an cdv ct), osl⟩) (hcd : codeIn K cdv qual = true) (hroom : A.depth < recursionLimit)
    (hbind : BindsTo s (fnX name qual params body scope cl dV kV doc pm an cdv ct) args binds) (hloc : ∀ y ∈ binds, scope.names.lookup y.1 = some .local)
    (h : ∀ g L' h₁, Fr h₀ L g m → Fr g L' h₁ (fun y => binds.reverse.lookup y) → News g L' h₁ news → Below A base (env :: outer) g → K.In g → Top p loose mean mg mb g → (∀ p ∈ news, p.1 < L') →
      (∀ b o, s.heap.get? b = some o → b ∉ news.map (·.1) → g.get? b = some o) → s.heap.objs.size ≤ L' →
      wpAny (model prog w) (A.deeper (envX qual scope L' f cdv cl)) (execs body (envX qual scope L' f cdv cl))
        (fun fl s' => LeaveK h₀ L m g R (match fl with | .ret v => v | _ => .none) s')
        (fun e s' => wpAny (model prog w) (A.deeper (envX qual scope L' f cdv cl)) (leaving (envX qual scope L' f cdv cl) e) (fun _ s'' => R (.error e) s'') (fun e' s'' => R (.error e') s'') s')
        { s with heap := h₁, toks := s.toks + binds.length })
    (hco : scope.isCoroutine = false) (hgen : scope.isGenerator = false) (hk : scope.kind = .function)
    (hcell : ∀ x ∈ scope.names, x.2 ≠ .cell) : codeAny (model prog w) A (.call (.ref f) args) R s := by
  obtain ⟨FG, BG, st, lv⟩ := groundX (R := R) B F N hA hf hke
  refine codeAny_call_def (fd := fnX name qual params body scope cl dV kV doc pm an cdv ct) (body := body) (binds := binds) hroom ((X₀.keeps F.keep) _ _ ho) rfl (T.nolimit.keeps F.keep) (codeRec_of (X₀.keeps F.keep) hcd) rfl hbind hcell hloc (fun h₁ hns hk₁ => ?_) hco hgen hk
  exact wpAny_mono (h _ s.heap.objs.size h₁ FG ⟨hns, fun b o e => hk₁ b o (of_hideAll _ e), Nat.le_of_eq (hideAll_size _ _)⟩
    (fun p hp => ⟨hk₁ _ _ (N p hp).1, Nat.ne_of_lt (Heap.lt_size (N p hp).1), hideAll_none _ (List.mem_map_of_mem hp)⟩) BG (X₀.keeps st) (T.keeps st) (fun p hp => Heap.lt_size (N p hp).1) (fun b o e hb => hideAll_get _ e hb) (Nat.le_refl _)) (fun fl s' hl => lv _ _ hl) fun _ _ y => y

theorem enterC {env : Env} {outer : List Env} {R : Result → Shared → Prop} {name qual : Str} {params : Arguments} {body : List Stmt} {scope : Scope} {dV kV doc pm cdv ct oc : Value} {an od : Option Addr} {osl : Array (Option Value)} {f : Addr} {args : Args} {binds : List (Str × Value)}
    (B : Below A₀ base outer h₀) (F : Fr h₀ L s.heap m) (X₀ : K.In h₀) (N : News h₀ L s.heap news) (T : Top p loose mean mg mb h₀) (hA : A.frames = some (env :: outer)) (hf : env.frame = some L) (hke : env.scope.kind = .function)
    (ho : K.lookup f = some ⟨oc, od, .func (fnX name qual params body scope [] dV kV doc pm an cdv ct), osl⟩) (hcd : codeIn K cdv qual = true) (hroom : A.depth < recursionLimit)
    (hbind : BindsTo s (fnX name qual params body scope [] dV kV doc pm an cdv ct) args binds) (hkind : (binds.all fun y => scope.names.lookup y.1 == some .local || scope.names.lookup y.1 == some .cell) = true)
    (hnd : ((cellsFrom 0 scope.names []).map (·.1)).Nodup)
    (h : ∀ g L' h₁ tk cells, Fr h₀ L g m → Fr g L' h₁ (bindL (envOfC qual scope L' f cdv).kindOf binds fun _ => none) → News g L' h₁ (cells ++ news) →
      CellsAre (bindC (envOfC qual scope L' f cdv).kindOf binds fun _ => none) (cellsFrom (L' + 1) scope.names []) cells → Below A base (env :: outer) g → K.In g → Top p loose mean mg mb g → (∀ p ∈ news, p.1 < L') →
      (∀ b o, s.heap.get? b = some o → b ∉ news.map (·.1) → g.get? b = some o) → s.heap.objs.size ≤ L' →
      wpAny (model prog w) (A.deeper (envOfC qual scope L' f cdv)) (execs body (envOfC qual scope L' f cdv))
        (fun fl s' => LeaveK h₀ L m g R (match fl with | .ret v => v | _ => .none) s')
        (fun e s' => wpAny (model prog w) (A.deeper (envOfC qual scope L' f cdv)) (leaving (envOfC qual scope L' f cdv) e) (fun _ s'' => R (.error e) s'') (fun e' s'' => R (.error e') s'') s')
        { s with heap := h₁, toks := tk })
    (hco : scope.isCoroutine = false) (hgen : scope.isGenerator = false) (hk : scope.kind = .function) : codeAny (model prog w) A (.call (.ref f) args) R s := by
  obtain ⟨FG, BG, st, lv⟩ := groundX (R := R) B F N hA hf hke
  refine codeAny_call_function (fd := fnX name qual params body scope [] dV kV doc pm an cdv ct) hroom ((X₀.keeps F.keep) _ _ ho) rfl hco hgen rfl (codeRec_of (X₀.keeps F.keep) hcd) (hbind _ _ _ _ ?_)
  refine wpAny_newFunctionEnv_cells hk (kindsX hkind _) fun env' he s' x => ?_
  subst he
  refine ⟨(T.nolimit.keeps F.keep).keeps x.toInCall.keep, codeAny_func ?_⟩
  obtain ⟨h₁, tk, rfl, _⟩ := x.done
  have hk₁ := x.toInCall.keep
  obtain ⟨cells, NC, Y⟩ := Cl.news (h₀ := s.heap) (Nat.le_refl _) fun n c hm => ⟨x.cell n c (lookup_of_mem_nodup (cellsFrom_names scope.names 0 (s.heap.objs.size + 1) [] [] rfl ▸ hnd) hm), x.above n c hm⟩
  refine wpAny_mono (h _ s.heap.objs.size h₁ tk cells FG ⟨x.toInCall.ns, fun b o e => hk₁ b o (of_hideAll _ e), Nat.le_of_eq (hideAll_size _ _)⟩ (fun p hp => ?_) Y BG (X₀.keeps st) (T.keeps st) (fun p hp => Heap.lt_size (N p hp).1) (fun b o e hb => hideAll_get _ e hb) (Nat.le_refl _)) (fun fl s' hl => lv _ _ hl) fun _ _ y => y
  rcases List.mem_append.mp hp with hp | hp
  · refine ⟨(NC p hp).1, (NC p hp).2.1, ?_⟩
    cases q : (hideAll s.heap (news.map (·.1))).get? p.1 with
    | none => rfl
    | some o => have := of_hideAll _ q; rw [(NC p hp).2.2] at this; cases this
  · exact ⟨hk₁ _ _ (N p hp).1, Nat.ne_of_lt (Heap.lt_size (N p hp).1), hideAll_none _ (List.mem_map_of_mem hp)⟩

/-- the heap has grown -/
def Grown (h h' : Heap) : Prop := ∀ b o, h.get? b = some o → h'.get? b = some o
theorem Grown.refl (h : Heap) : Grown h h := fun _ _ e => e
theorem Grown.trans {h h' h'' : Heap} (a : Grown h h') (b : Grown h' h'') : Grown h h'' := fun x o e => b x o (a x o e)
theorem above_new {h : Heap} {a : Addr} (F : Fr h₀ L h m) (ha : h.objs.size ≤ a) : a ≠ L ∧ h₀.get? a = none :=
  ⟨fun e => absurd F.ns.lt (Nat.not_lt.mpr (e ▸ ha)), Heap.get?_none_of_le (Nat.le_trans (Nat.le_of_lt (Nat.lt_of_le_of_lt F.above F.ns.lt)) ha)⟩
theorem News.put {h h' : Heap} {a : Addr} {o : Obj} (F : Fr h₀ L h m) (N : News h₀ L h' news) (ha : h.objs.size ≤ a) (ho : h'.get? a = some o) : News h₀ L h' ((a, o) :: news) := fun p hp => by
  rcases List.mem_cons.mp hp with rfl | hp
  · exact ⟨ho, above_new F ha⟩
  · exact N p hp
end
end Mine
end
section
theorem Mine.quietC1 : True := by
  w_top off
  trivial
open PySem PySem.W PyProof.Rows PySem.Calls PySem.Spec
namespace Mine
def hdr (n : Int) (z : Nat) : List Int := [n.fmod 256, n.fdiv 256, Int.fmod z 256, Int.fdiv z 256]
theorem hdr_in {n : Int} {z : Nat} (h0 : 0 ≤ n) (h1 : n < 65536) (hz : z < 65536) : ∀ k ∈ hdr n z, 0 ≤ k ∧ k < 256 := by
  simp only [hdr, List.forall_mem_cons, List.not_mem_nil, false_implies, implies_true, and_true, Int.fmod_eq_emod_of_nonneg _ (by decide : (0 : Int) ≤ 256), Int.fdiv_eq_ediv_of_nonneg _ (by decide : (0 : Int) ≤ 256)]
  refine ⟨?_, ?_, ?_, ?_⟩ <;> omega
set_option maxRecDepth 100000
set_option maxHeartbeats 4000000
local macro_rules | `(tactic| kba_in) => `(tactic| (refine hdr_in ?_ ?_ ?_ <;> assumption))
theorem field_spec {w : World} {mean : ExcName → Option Value} {mg mb : Str → Option Value} {dp un : Nat} {gd : Option (List Code)} {cn : Str} {cs : Scope} {a : Addr} {ccd : Value} {cl : List (Str × Addr)} {outer : List Env} {A₀ : Around} {base h₀ : Heap} {L : Addr} {m : Str → Option Value} {s : Shared} {Q E : Value → Shared → Prop}
  {n : Int} {tn : Tok} {b : Array UInt8} {t : Tok} {ks : List Int} {news : List (Addr × Obj)}
  (B : Below A₀ base outer h₀) (F : Fr h₀ L s.heap m) (X : (Mine.hd.heap_39 w.params).In h₀) (N : News h₀ L s.heap news) (T : Top Mine.hd.view_39 (looseW Mine.hd.view_39 [Str.ofString "_Extra"]) mean mg mb h₀) (hk : cs.kind = .function)
  (hn0 : 0 ≤ n) (hn1 : n < 65536) (hb : KBw.bInts b = ks) (hz : ks.length < 65536)
  (hd : dp + 4 < recursionLimit)
  (ret : ∀ c t' h' tk', Fr h₀ L h' m → News h₀ L h' news → KBw.bInts c = hdr n ks.length ++ ks → Q (.bytes c t') { s with heap := h', toks := tk' }) :
  wpAny (model PySem.Challenge.rw_kl0365_01.row.prog w) (ktrTop dp un gd cn cs L a ccd cl outer) (call (.ref 124) [.int n tn, .bytes b t]) Q E s := by
  revert X; k_fill; intro X
  refine wpAny_call ?_
  k_dflt ktr_enter
  k_steps
  all_goals (refine ret _ _ _ _ (by assumption) (fun p hp => ‹News h₀ L _ (_ :: news)› p (List.mem_cons_of_mem _ hp)) (by assumption))
end Mine
end
section
theorem Mine.quietC2 : True := by
  w_top off
  trivial
open PySem PySem.W PyProof.Rows PySem.Calls PySem.Spec
namespace Mine
theorem grown_of {h g h' : Heap} {L : Addr} {m : Str → Option Value} (hg : ∀ b o, h.get? b = some o → b ∉ ([] : List (Addr × Obj)).map (·.1) → g.get? b = some o) (F : Fr g L h' m) : Grown h h' :=
  fun b o e => F.keep b o (hg b o e (by simp))
theorem in_hdr0 {n z : Int} (h0 : 0 ≤ n) (h1 : n < 65536) (z0 : 0 ≤ z) (z1 : z < 65536) : ∀ k ∈ [n.fmod 256, n.fdiv 256, z.fmod 256, z.fdiv 256], 0 ≤ k ∧ k < 256 := by
  simp only [List.forall_mem_cons, List.not_mem_nil, false_implies, implies_true, and_true, Int.fmod_eq_emod_of_nonneg _ (by decide : (0 : Int) ≤ 256), Int.fdiv_eq_ediv_of_nonneg _ (by decide : (0 : Int) ≤ 256)]
  refine ⟨?_, ?_, ?_, ?_⟩ <;> omega
theorem in_hdr {n z : Int} {t : List Int} (h0 : 0 ≤ n) (h1 : n < 65536) (z0 : 0 ≤ z) (z1 : z < 65536) (ht : KBa.In t) : KBa.In ([n.fmod 256, n.fdiv 256, z.fmod 256, z.fdiv 256] ++ t) := by
  intro k hk
  rcases List.mem_append.mp hk with hk | hk
  · exact in_hdr0 h0 h1 z0 z1 k hk
  · exact ht k hk
theorem in_take {α : Type} {f : α → Int} {k : Nat} {l : List α} : KBa.In (List.take k (List.map (fun x => Int.fmod (f x) 256) l)) := by
  intro n hn
  obtain ⟨x, _, rfl⟩ := List.mem_map.mp (List.mem_of_mem_take hn)
  exact ⟨fmod_lo _ (by decide), fmod_hi _ (by decide)⟩
def EndOK (i : Option Int) (ks : List Int) : Prop := match i with
  | none => ks.length < 4
  | some n => 0 ≤ n ∧ n < 65536 ∧ ∃ (z : Nat) (r : List Int), z < 65536 ∧ ks = hdr n z ++ r ∧ r.length < 4 ∧ r.length < z
def IdVal (i : Option Int) (v : Value) : Prop := match i with
  | none => v = .none
  | some n => ∃ u, v = .int n u
theorem endOK_none {ns : List Int} (hin : KBa.In ns) (hl : ns.length < 4) : EndOK none (KBw.bInts (byteArr ns)) := by
  rw [KBa.ints_make hin]; exact hl
theorem endOK_some {n z : Int} {t : List Int} (hin : KBa.In ([n.fmod 256, n.fdiv 256, z.fmod 256, z.fdiv 256] ++ t)) (n0 : 0 ≤ n) (n1 : n < 65536) (z1 : z < 65536) (h4 : t.length < 4) (htz : (t.length : Int) < z) :
    EndOK (some n) (KBw.bInts (byteArr ([n.fmod 256, n.fdiv 256, z.fmod 256, z.fdiv 256] ++ t))) := by
  rw [KBa.ints_make hin]
  refine ⟨n0, n1, z.toNat, t, by omega, ?_, h4, by omega⟩
  have e : ((z.toNat : Nat) : Int) = z := by omega
  unfold hdr; rw [e]
theorem len_take {α : Type} {k : Int} {l : List α} (h : 0 ≤ k) : ((List.take k.toNat l).length : Int) ≤ k := by
  rw [List.length_take]; omega
set_option maxRecDepth 100000
set_option maxHeartbeats 4000000
local macro_rules | `(tactic| kba_in) => `(tactic| first | exact in_take | (refine in_hdr ?_ ?_ ?_ ?_ in_take <;> first | exact fmod_lo _ (by decide) | exact fmod_hi _ (by decide) | decide | (simp only [Int.fmod_eq_emod_of_nonneg _ (by decide : (0 : Int) ≤ 4), Int.fmod_eq_emod_of_nonneg _ (by decide : (0 : Int) ≤ 9)]; omega)))
local macro_rules | `(tactic| ktr_enter) => `(tactic| (refine' enterC ?k1 ?k2 ?k3 ?k4 ?k5 ?kA ?kF ?kK ?k6 ?k7 ?k8 ?k9 ?kB ?kD ?_ ?c2 ?c3 ?c4; (case kA => exact rfl); (case kF => exact rfl); (case kK => assumption); (case k1 => k_asm); (case k2 => k_asm); (case k3 => k_asm); (case k4 => k_asm); (case k5 => k_asm); (case k6 => k_is); (case k7 => k_is); (case k8 => ktr_room); (case k9 => exact BindsTo.of_eq rfl); (case kB => exact rfl); (case kD => decide +kernel); (case c2 => exact rfl); (case c3 => exact rfl); (case c4 => exact rfl); k_whole; intro g' L' h' tk' cells' FG' F' N' Y' B' X' T' l1 hg9 hL9; (try k_lt l1); k_cells Y'; (try simp only [List.cons_append, List.nil_append] at N'); (try dsimp only); (try k_lift B'); (try k_fold)))
theorem end_spec {w : World} {mean : ExcName → Option Value} {mg mb : Str → Option Value} {dp un : Nat} {gd : Option (List Code)} {cn : Str} {cs : Scope} {a : Addr} {ccd : Value} {cl : List (Str × Addr)} {outer : List Env} {A₀ : Around} {base h₀ : Heap} {L : Addr} {m : Str → Option Value} {s : Shared} {Q E : Value → Shared → Prop}
  {q : Int} {tn : Tok}
  (B : Below A₀ base outer h₀) (F : Fr h₀ L s.heap m) (X : (Mine.hd.heap_39 w.params).In h₀) (T : Top Mine.hd.view_39 (looseW Mine.hd.view_39 [Str.ofString "_Extra"]) mean mg mb h₀) (hk : cs.kind = .function)
  (hd : dp + 4 < recursionLimit)
  (ret : ∀ p v b t' h' tk' i, Grown s.heap h' → h'.get? p = some { cls := .type "tuple", data := .seq #[v, .bytes b t'] } → s.heap.objs.size ≤ p → IdVal i v → EndOK i (KBw.bInts b) → Q (.ref p) { s with heap := h', toks := tk' }) :
  wpAny (model PySem.Challenge.rw_kl0365_01.row.prog w) (ktrTop dp un gd cn cs L a ccd cl outer) (call (.ref 117) [.int q tn]) Q E s := by
  revert X; k_fill; intro X
  have N : News h₀ L s.heap [] := News.nil
  refine wpAny_call ?_
  k_dflt ktr_enter
  k_steps
  · refine ret _ _ _ _ _ _ none (grown_of (by assumption) (by assumption)) (News.get (by assumption) (List.Mem.head _)) (by omega) rfl (endOK_none (by assumption) ?_)
    have h1 := len_take (l := (List.map (fun k' => (q.fdiv 6 + 5 * k').fmod 256) (rangeKs 0 ((3 : Int) - 0).toNat))) (fmod_lo q (by decide : (0 : Int) < 6))
    omega
  · have h0 := fmod_lo (q.fdiv 6) (by decide : (0 : Int) < 4)
    have h2 := fmod_hi (q.fdiv 6) (by decide : (0 : Int) < 4)
    have h1 := len_take (l := (List.map (fun k' => (q.fdiv 6 + 5 * k').fmod 256) (rangeKs 0 ((3 : Int) - 0).toNat))) h0
    refine ret _ _ _ _ _ _ (some ((q.fdiv 6).fmod 65536)) (grown_of (by assumption) (by assumption)) (News.get (by assumption) (List.Mem.head _)) (by omega) ⟨_, rfl⟩ (endOK_some (by assumption) (fmod_lo _ (by decide)) (fmod_hi _ (by decide)) (by decide) ?_ ?_) <;> omega
  · have h0 := fmod_lo (q.fdiv 6) (by decide : (0 : Int) < 4)
    have h2 := fmod_hi (q.fdiv 6) (by decide : (0 : Int) < 4)
    have h3 := fmod_lo ((q.fdiv 6).fdiv 4) (by decide : (0 : Int) < 9)
    have h4 := fmod_hi ((q.fdiv 6).fdiv 4) (by decide : (0 : Int) < 9)
    have h1 := len_take (l := (List.map (fun k' => (q.fdiv 6 + 5 * k').fmod 256) (rangeKs 0 ((3 : Int) - 0).toNat))) h0
    refine ret _ _ _ _ _ _ (some ((q.fdiv 6).fmod 65536)) (grown_of (by assumption) (by assumption)) (News.get (by assumption) (List.Mem.head _)) (by omega) ⟨_, rfl⟩ (endOK_some (by assumption) (fmod_lo _ (by decide)) (fmod_hi _ (by decide)) ?_ ?_ ?_) <;> omega
end Mine
end
section
open PySem PySem.W PyProof.Rows PySem.Calls PySem.Spec
set_option maxRecDepth 100000
namespace Mine
namespace FS
theorem slot_unpack : Slot "_struct.Struct" "unpack" "_struct.Struct.unpack" :=
  .of (owner := "_struct.Struct") (n := "unpack") (by rw [typeLookup_type, builtinLookup_eq_fast]; kernel_rfl) (by decide +kernel) (by decide +kernel) (by decide +kernel)
    (by first | exact .inl (by decide +kernel) | exact .inr (by decide +kernel)) (by rw [isSubtype_type]; kernel_rfl)
theorem entry_unpack : entryFor table "_struct.Struct.unpack" = some Builtin.«_struct.Struct.unpack» := entryFor_of_tree (by kernel_rfl)
theorem args_unpack (a b : Value) : argsOk "_struct.Struct.unpack" ⟨[a, b], []⟩ := by unfold argsOk; kernel_rfl
theorem look_ga : typeLookup (.type "_struct.Struct") "__getattribute__" = pure (some (.builtin "_struct.Struct.__getattribute__")) := by rw [typeLookup_type, builtinLookup_eq_fast]; kernel_rfl
theorem look_gattr : typeLookup (.type "_struct.Struct") "__getattr__" = pure none := by rw [typeLookup_type, builtinLookup_eq_fast]; kernel_rfl
theorem kind_unpack : builtinType "_struct.Struct.unpack" = pure (.type "method_descriptor") := by rw [builtinType_eq_fast]; kernel_rfl
theorem plainExc : PlainExc "struct.error" := ⟨fun args => by
  unfold ownMembersOf
  split <;> first | rfl | (rename_i h; revert h; decide) | simp_all, by decide +kernel⟩
end FS
section
variable {prog : Program} {w : World} {A : Around} {E : Value → Shared → Prop} {s : Shared} {a : Addr}
theorem unpack_method {M : Model} {A : Around} {E : Value → Shared → Prop} {s : Shared} {vs : Array Value} {pl : Sem Bool} {Q : Value × List Value → Shared → Prop} (ho : s.heap.get? a = some ⟨.type "_struct.Struct", none, .fields vs, #[]⟩)
    (h : Q (.builtin "_struct.Struct.unpack", [.ref a]) s) : wpAny M A (getMethod (.ref a) "unpack" pl) Q E s := by
  have hT : s.TypeIs (.ref a) "_struct.Struct" := ⟨_, ho, rfl⟩
  unfold getMethod
  refine wpAny_bind (wpAny_specialOf hT FS.look_ga ?_)
  dsimp only
  rw [if_neg (by decide +kernel)]
  refine wpAny_bind (wpAny_specialOf hT FS.look_gattr ?_)
  rw [if_neg (by decide)]
  refine wpAny_bind (wpAny_specialOf hT FS.slot_unpack.lookup ?_)
  dsimp only
  refine wpAny_bind (wpAny_of_eq (show typeOf (.builtin "_struct.Struct.unpack") = _ from FS.kind_unpack) ?_)
  rw [if_neg (by decide)]
  refine wpAny_bind (wpAny_loadPart ho ?_)
  dsimp only
  exact wpAny_bind (wpAny_rule (wpAny_pure h))
end
end Mine
end
section
open PySem PySem.W PyProof.Rows PySem.Calls PySem.Spec
set_option maxRecDepth 100000
namespace Mine
open Builtin
def fmtHH : Builtin.Struct.Format := { bigEndian := false, native := false, codes := [⟨'H', 1, 0, 2⟩, ⟨'H', 1, 2, 2⟩], size := 4, items := 2 }
theorem parse_HH : Builtin.Struct.parse #[60, 72, 72] = pure fmtHH := by kernel_rfl
section
variable {prog : Program} {w : World} {A : Around} {E : Value → Shared → Prop} {s : Shared} {a : Addr}
theorem format_HH {M : Model} {tk : Tok} {Q : Array UInt8 × Builtin.Struct.Format → Shared → Prop} (ho : s.heap.get? a = some ⟨.type "_struct.Struct", none, .fields #[.bytes #[60, 72, 72] tk], #[]⟩)
    (h : Q (#[60, 72, 72], fmtHH) s) : wpAny M A (Builtin.Struct.structFormat (.ref a)) Q E s := by
  unfold Builtin.Struct.structFormat
  refine wpAny_bind (wpAny_field ho rfl (x := .bytes #[60, 72, 72] tk) rfl ?_)
  refine bm_if_false rfl ?_
  refine wpAny_bind (wpAny_of_eq (a := #[60, 72, 72]) rfl ?_)
  refine wpAny_bind (wpAny_of_eq parse_HH (wpAny_pure h))
theorem unpack_bad {b : Array UInt8} {t tk : Tok} {Q : Value → Shared → Prop} (hh : A.handled = none) (ho : s.heap.get? a = some ⟨.type "_struct.Struct", none, .fields #[.bytes #[60, 72, 72] tk], #[]⟩) (hb : b.size ≠ 4)
    (h : ∀ h' tk' e, Heap.NewExc s.heap h' e "struct.error" → E (.ref e) { s with heap := h', toks := tk' }) :
    wpAny (model prog w) A (call (.builtin "_struct.Struct.unpack") [.ref a, .bytes b t]) Q E s := by
  have hT : s.TypeIs (.ref a) "_struct.Struct" := ⟨_, ho, rfl⟩
  refine wpAny_call_entry FS.slot_unpack hT FS.entry_unpack ?_ (FS.args_unpack _ _)
  unfold Builtin.«_struct.Struct.unpack»
  refine wpAny_bind (wpAny_of_eq (a := (Value.ref a, Value.bytes b t)) rfl ?_)
  dsimp only
  unfold Builtin.Struct.unpackExact Builtin.Bytes.bytesLike
  refine wpAny_bind (wpAny_bind (wpAny_of_eq KBy.buffer_eq ?_))
  refine wpAny_pure ?_
  refine wpAny_bind (wpAny_bind (format_HH ho (wpAny_pure ?_)))
  dsimp only
  have hne : (b.size != fmtHH.size) = true := by simpa [fmtHH] using hb
  refine bm_if_true hne ?_
  refine wpAny_bind (wpAny_rule ?_)
  unfold Builtin.Struct.structError raiseErrorMade
  refine wpAny_bind ?_
  refine wpAny_bind (wpAny_mkStr (wpAny_bind ?_) (by decide +kernel))
  unfold newExc newTuple
  refine wpAny_bind (wpAny_newObj_type ?_)
  refine wpAny_bind (m := firstArgMember _ _) (wpAny_of_eq (a := Value.none) (by simp only [firstArgMember, FS.plainExc.first]; rfl) ?_)
  rw [FS.plainExc.own]
  refine wpAny_newObj_type ?_
  refine wpAny_raiseNew_none hh ?_
  exact h _ _ _ ⟨fun b o hb => Heap.get?_push_of_some _ (Heap.get?_push_of_some _ hb), Heap.get?_none_of_le (by simp), _, .ref s.heap.objs.size, Heap.get?_push_size _ rfl, rfl, by simp⟩
theorem unpack_ok {x0 x1 x2 x3 : UInt8} {t tk : Tok} {Q : Value → Shared → Prop} (ho : s.heap.get? a = some ⟨.type "_struct.Struct", none, .fields #[.bytes #[60, 72, 72] tk], #[]⟩)
    (h : ∀ u v, Q (.ref s.heap.objs.size) { s with heap := s.heap.push { cls := .type "tuple", data := .seq #[.int ((x0.toNat : Int) + 256 * x1.toNat) u, .int ((x2.toNat : Int) + 256 * x3.toNat) v] }, toks := s.toks + 2 }) :
    wpAny (model prog w) A (call (.builtin "_struct.Struct.unpack") [.ref a, .bytes #[x0, x1, x2, x3] t]) Q E s := by
  have hT : s.TypeIs (.ref a) "_struct.Struct" := ⟨_, ho, rfl⟩
  refine wpAny_call_entry FS.slot_unpack hT FS.entry_unpack ?_ (FS.args_unpack _ _)
  unfold Builtin.«_struct.Struct.unpack»
  refine wpAny_bind (wpAny_of_eq (a := (Value.ref a, Value.bytes #[x0, x1, x2, x3] t)) rfl ?_)
  dsimp only
  unfold Builtin.Struct.unpackExact Builtin.Bytes.bytesLike
  refine wpAny_bind (wpAny_bind (wpAny_of_eq KBy.buffer_eq ?_))
  refine wpAny_pure ?_
  refine wpAny_bind (wpAny_bind (format_HH ho (wpAny_pure ?_)))
  dsimp only
  refine bm_if_false rfl ?_
  unfold Builtin.Struct.unpacked
  simp only [Std.Legacy.Range.forIn_eq_forIn_range']
  repeat lk
  refine ⟨_, rfl, ?_⟩
  have n1 : Builtin.Struct.natOf fmtHH.bigEndian (#[x0, x1, x2, x3].extract (0 + 0 + 0 * 2) (0 + 0 + (0 + 1) * 2)) = x0.toNat + 256 * x1.toNat := by
    show Builtin.Memoryview.littleEndian #[x0, x1] = _
    simp only [Builtin.Memoryview.littleEndian, List.foldr_toArray, List.foldr_cons, List.foldr_nil]
    omega
  have n2 : Builtin.Struct.natOf fmtHH.bigEndian (#[x0, x1, x2, x3].extract (0 + 2 + 0 * 2) (0 + 2 + (0 + 1) * 2)) = x2.toNat + 256 * x3.toNat := by
    show Builtin.Memoryview.littleEndian #[x2, x3] = _
    simp only [Builtin.Memoryview.littleEndian, List.foldr_toArray, List.foldr_cons, List.foldr_nil]
    omega
  have low : 'H'.isLower = false := by decide
  rw [n1, n2]
  simp only [low, Bool.false_and, Bool.false_eq_true, if_false, Int.natCast_add, Int.natCast_mul]
  exact h _ _
end
end Mine
end
section
open PySem PySem.W PyProof.Rows PySem.Calls PySem.Spec
set_option maxRecDepth 100000
namespace Mine
open Builtin
abbrev supObj (D : Addr) : Obj := { cls := .type "super", dict := none, data := .fields #[.ref D, .ref D, .ref D], slots := #[] }
section
variable {prog : Program} {w : World} {A : Around} {E : Value → Shared → Prop} {h : Heap} {g : Array GenState} {d : Drawn} {t : Nat} {os : OsState}
theorem call_super_cls {D : Addr} {oD : Obj} {cdD : ClassData} {Q : Value → Shared → Prop}
    (hD : h.get? D = some oD) (hDt : oD.data = .cls cdD) (hsub : Looks (model prog w) h (isSubtype (.ref D) (.ref D)) true)
    (hq : ∀ h', h'.get? h.objs.size = some (supObj D) → (∀ y o, h.get? y = some o → h'.get? y = some o) → Q (.ref h.objs.size) ⟨h', g, d, t, os⟩) :
    wpAny (model prog w) A (call (.type "super") [.ref D, .ref D]) Q E ⟨h, g, d, t, os⟩ := by
  refine ks_callType_codesW (Q₁ := fun obj s₁ => obj = .ref h.objs.size ∧ s₁ = ⟨h.push { cls := .type "super", data := .fields #[.none, .none, .none] }, g, d, t, os⟩) F.ks_called_super (ks_wpAny_checkTypeCall_super hD hDt) F.ks_entry_super_init
    (ks_code_super_new _ _ ⟨rfl, rfl⟩) fun obj s₁ h₁ => ?_
  obtain ⟨rfl, rfl⟩ := h₁
  have up : ∀ y o, h.get? y = some o → (h.push { cls := .type "super", data := .fields #[.none, .none, .none] }).get? y = some o := fun y o e => Heap.get?_push_of_some _ e
  have hso : (h.push { cls := .type "super", data := .fields #[.none, .none, .none] }).get? h.objs.size = some { cls := .type "super", dict := none, data := .fields #[.none, .none, .none], slots := #[] } := Heap.get?_push_at rfl rfl
  have hD' := up _ _ hD
  have hsub' := hsub.keeps up
  refine ⟨⟨_, hso, rfl⟩, F.ks_initArgs_super _ _ _, ?_⟩
  unfold Builtin.«super.__init__» noKeywords
  repeat (first | (with_reducible refine ks_wpAny_isType_cls hD' hDt ?_) | (with_reducible refine Looks.at hsub' ?_) | (with_reducible refine ks_wpAny_super_set3 hso ?_) | wp_step)
  all_goals first
    | (intro h' e k; exact ⟨rfl, hq h' e fun y o ey => k y o (Nat.ne_of_lt (Heap.lt_size ey)) (up y o ey)⟩)
    | (refine ks_wpAny_super_set3 hso ?_; intro h' e k; exact ⟨rfl, hq h' e fun y o ey => k y o (Nat.ne_of_lt (Heap.lt_size ey)) (up y o ey)⟩)

theorem own_bytes_new : builtinOwn "bytes" "__new__" = some (.builtin "bytes.__new__") := by decide +kernel
theorem type_bytes_new : builtinType "bytes.__new__" = pure (.type "builtin_function_or_method") := by rw [builtinType_eq_fast]; kernel_rfl
theorem look_bfm_get : typeLookup (.type "builtin_function_or_method") "__get__" = pure none := by rw [typeLookup_type, builtinLookup_eq_fast]; kernel_rfl
theorem ga_super_cls {so D : Addr} {cd : ClassData} {oD : Obj} {Q : Fin → Shared → Prop} {tn : Tok} (hso : h.get? so = some (supObj D)) (hD : h.get? D = some oD) (hDt : oD.data = .cls cd) (hm : cd.mro = [.ref D, .type "bytes", .type "object"])
    (hno : Looks (model prog w) h (opaqueClassAbove (.ref D)) none)
    (hq : Q (.done (.ret (.builtin "bytes.__new__"))) ⟨h, g, d, t, os⟩) :
    wpAny (model prog w) A (Builtin.«super.__getattribute__» ⟨[.ref so, .str "__new__" tn], []⟩) Q E ⟨h, g, d, t, os⟩ := by
  have hmro : Looks (model prog w) h (mroOf (.ref D)) [.ref D, .type "bytes", .type "object"] := hm ▸ (((Looks.ld (part := none) hD).andThen (by rw [hDt]; exact .now)).andThen .now)
  have hdt : (supObj D).data = .fields #[.ref D, .ref D, .ref D] := rfl
  have f0 : (#[.ref D, .ref D, .ref D] : Array Value)[0]? = some (.ref D) := rfl
  have f1 : (#[.ref D, .ref D, .ref D] : Array Value)[1]? = some (.ref D) := rfl
  have f2 : (#[.ref D, .ref D, .ref D] : Array Value)[2]? = some (.ref D) := rfl
  have hl : (([.ref D, .type "bytes", .type "object"] : List Value).dropWhile (· != .ref D)).drop 1 = [.type "bytes", .type "object"] := by simp
  have hown : classOwn (.type "bytes") "__new__" = pure (some (.builtin "bytes.__new__")) := by show pure (builtinOwn "bytes" "__new__") = _; rw [own_bytes_new]
  have hty : typeOf (.builtin "bytes.__new__") = pure (.type "builtin_function_or_method") := type_bytes_new
  unfold Builtin.«super.__getattribute__»
  repeat (first
    | (with_reducible refine wpAny_field hso hdt f0 ?_) | (with_reducible refine wpAny_field hso hdt f1 ?_) | (with_reducible refine wpAny_field hso hdt f2 ?_)
    | (with_reducible refine ks_wpAny_notOpaque hno ?_)
    | (with_reducible refine Looks.at hmro ?_; rw [hl])
    | (with_reducible refine wpAny_of_eq hown ?_)
    | (with_reducible refine wpAny_of_eq hty ?_)
    | (with_reducible refine wpAny_of_eq look_bfm_get ?_)
    | (rw [List.forIn_cons])
    | (simp only [Bool.or_false, Bool.false_eq_true, if_false])
    | wp_step
    | dsimp only)
  all_goals exact hq
theorem getMethod_so {so D : Addr} {cd : ClassData} {oD : Obj} {pl : Sem Bool} {Q : Value × List Value → Shared → Prop} (hso : h.get? so = some (supObj D)) (hD : h.get? D = some oD) (hDt : oD.data = .cls cd) (hm : cd.mro = [.ref D, .type "bytes", .type "object"])
    (hno : Looks (model prog w) h (opaqueClassAbove (.ref D)) none) (hq : Q (.builtin "bytes.__new__", []) ⟨h, g, d, t + 1, os⟩) :
    wpAny (model prog w) A (getMethod (.ref so) "__new__" pl) Q E ⟨h, g, d, t, os⟩ := by
  have hlk := F.ks_slot_super_ga.lookup
  have hcan := F.ks_canon_super_ga
  have hT : ∀ t', (⟨h, g, d, t', os⟩ : Shared).TypeIs (.ref so) "super" := fun _ => ⟨_, hso, rfl⟩
  unfold getMethod
  refine wpAny_bind (wpAny_specialOf (hT _) hlk ?_)
  show wpAny _ _ (if (Manifest.canonical "super.__getattribute__" != "object.__getattribute__") = true then _ else _) _ _ _
  rw [if_pos hcan]
  unfold getAttr getAttrBy
  refine wpAny_bind (wpAny_bind (wpAny_mkText (wpAny_holding (wpAny_bind (wpAny_typeOf (hT _) (wpAny_bind (wpAny_of_eq hlk ?_)))))))
  show wpAny _ _ (getAttrByItsOwn (.ref so) (.str "__new__" t) (.type "super") (.builtin "super.__getattribute__") true false) _ _ _
  unfold getAttrByItsOwn hookBefore callGetattribute boundAndCalled
  refine wpAny_bind (wpAny_of_eq (show (if onTheHeap (.type "super") then typeLookup (.type "super") "__getattr__" else pure none) = pure none from rfl) ?_)
  refine wpAny_bind (wpAny_attempt (wpAny_holding ?_))
  show wpAny _ _ (bindSpecial (.builtin "super.__getattribute__") (.ref so) >>= _) _ _ _
  refine wpAny_bind (wpAny_of_eq (F.ks_slot_super_ga.bind _) ?_)
  refine wpAny_mono (Q := fun v s' => v = .builtin "bytes.__new__" ∧ s' = ⟨h, g, d, t + 1, os⟩) (E := fun _ _ => False)
    (wpAny_call_entry F.ks_slot_super_ga (hT _) F.ks_entry_super_ga (ga_super_cls hso hD hDt hm hno ⟨_, rfl, rfl, rfl⟩) (F.ks_gaArgs_super _ _)) (fun v s' hv => ?_) fun _ _ z => z.elim
  obtain ⟨rfl, rfl⟩ := hv
  exact wpAny_pure (wpAny_pure hq)
end
def oE : Obj := { cls := .type "type", data := .cls { name := "_Extra", bases := [.type "bytes"], mro := [.ref 108, .type "bytes", .type "object"], ns := 107, qualname := "_Extra" }, slots := #[some (.ref 50), none, some (.str "_Extra" 332), some (.str "_Extra" 340), some .none, some (.bool false)] }
theorem K108 (P : Params) : (Mine.hd.heap_39 P).lookup 108 = some oE := rfl
abbrev exObj (dx : Addr) (b : Array UInt8) (t : Tok) : Obj := { cls := .ref 108, dict := some dx, data := .prim (.bytes b t) }
theorem best_bytes : Builtin.Slots.bestBase [.type "bytes"] = pure (.type "bytes") := by kernel_rfl
theorem made_bytes : Bind.madeBy (.type "bytes") = pure (some "bytes.__new__") := madeBy_type F.bm_mro F.bm_lookup_new (by decide +kernel)
section
variable {M : Model} {h : Heap}
theorem looks_made (hD : h.get? 108 = some oE) : Looks M h (Bind.madeBy (.ref 108)) none := by
  intro A Q E s k q
  have hD' := k _ _ hD
  unfold Bind.madeBy
  repeat lk
  exact q
theorem looks_base (hD : h.get? 108 = some oE) : Looks M h (Bind.staticBase (.ref 108)) (.type "bytes") := by
  intro A Q E s k q
  have hD' := k _ _ hD
  have L1 := looks_made (M := M) hD'
  unfold Bind.staticBase
  repeat (first | with_reducible refine L1.here ?_ | with_reducible refine wpAny_of_eq best_bytes ?_ | with_reducible refine wpAny_of_eq made_bytes ?_ | lk)
  exact q
end
end Mine
end
section
open PySem PySem.W PyProof.Rows PySem.Calls PySem.Spec
set_option maxRecDepth 100000
namespace Mine
open Builtin
section
variable {M : Model} {h : Heap}
theorem looks_subB (hD : h.get? 108 = some oE) : Looks M h (isSubtype (.ref 108) (.type "bytes")) true := by
  intro A Q E s k q
  have hD' := k _ _ hD
  unfold isSubtype
  repeat lk
  exact q
theorem looks_subE (hD : h.get? 108 = some oE) : Looks M h (isSubtype (.ref 108) (.ref 108)) true := by
  intro A Q E s k q
  have hD' := k _ _ hD
  unfold isSubtype
  repeat lk
  exact q
theorem looks_isT (hD : h.get? 108 = some oE) : Looks M h (isType (.ref 108)) true := by
  intro A Q E s k q
  have hD' := k _ _ hD
  unfold isType
  repeat lk
  exact q
theorem kind_bn : builtinKind "bytes.__new__" = some .builtinFn := by decide +kernel
theorem split_bn : splitId "bytes.__new__" = some ("bytes", "__new__") := by decide +kernel
theorem args_bn (a b : Value) : argsOk "bytes.__new__" ⟨[a, b], []⟩ := by unfold argsOk; kernel_rfl
end
section
variable {prog : Program} {w : World} {A : Around} {E : Value → Shared → Prop} {s : Shared}
theorem check_bn {b : Array UInt8} {t : Tok} {Q : Unit → Shared → Prop} (hD : s.heap.get? 108 = some oE) (hq : Q () s) :
    wpAny (model prog w) A (checkBuiltinCall "bytes.__new__" ⟨[.ref 108, .bytes b t], []⟩) Q E s := by
  have L1 := looks_subB (M := model prog w) hD
  have L2 := looks_isT (M := model prog w) hD
  have L3 := looks_base (M := model prog w) hD
  simp only [checkBuiltinCall, kind_bn, split_bn]
  refine bm_if_true (by decide) ?_
  refine wpAny_bind (L2.here ?_)
  refine bm_if_false rfl ?_
  refine wpAny_bind (L1.here ?_)
  refine bm_if_false rfl ?_
  refine wpAny_bind (L3.here (wpAny_bind (wpAny_of_eq made_bytes ?_)))
  dsimp only
  refine bm_if_false (by decide +kernel) ?_
  have ha := args_bn (.ref 108) (.bytes b t)
  cases hsig : Manifest.signature? "bytes.__new__" with
  | none => exact wpAny_pure hq
  | some sig =>
    simp only [argsOk, hsig] at ha
    have h2 : Bind.checkArgs "bytes.__new__" sig ⟨[.ref 108, .bytes b t], []⟩ = pure () := ha
    show wpAny _ _ (Bind.checkArgs "bytes.__new__" sig ⟨[.ref 108, .bytes b t], []⟩) Q E s
    rw [h2]; exact wpAny_pure hq
theorem bind_bn (v : Value) : Builtin.Bytes.bindOptional "bytes.__new__" "bytes" ["source", "encoding", "errors"] [v] [] = pure [some v, none, none] := by kernel_rfl
theorem look_bytes_bytes : typeLookup (.type "bytes") "__bytes__" = pure (some (.builtin "bytes.__bytes__")) := by rw [typeLookup_type, builtinLookup_eq_fast]; kernel_rfl
theorem own_rel {M : Model} {h : Heap} {x dx : Addr} {b : Array UInt8} {t : Tok} (X : Looks M h (typeLookup (.ref 108) "__release_buffer__") none) (hx : h.get? x = some (exObj dx b t)) : Looks M h (Builtin.Bytes.ownRelease (.ref x)) false := by
  intro A Q E s k q
  have hx' := k _ _ hx
  have X' := X.keeps k
  unfold Builtin.Bytes.ownRelease Builtin.Bytes.slotIsOwn specialOf
  repeat (first | with_reducible refine X'.here ?_ | lk)
  exact q
theorem call_bn {b : Array UInt8} {t : Tok} {Q : Value → Shared → Prop} (hD : s.heap.get? 108 = some oE) (hr : Looks (model prog w) s.heap (typeLookup (.ref 108) "__release_buffer__") none) (hz : b.size ≤ sizeLine)
    (hq : ∀ t' k, Q (.ref (s.heap.objs.size + 1)) { s with heap := (s.heap.push emptyDict).push (exObj s.heap.objs.size b t'), toks := k }) :
    wpAny (model prog w) A (call (.builtin "bytes.__new__") [.ref 108, .bytes b t]) Q E s := by
  have L1 := looks_subB (M := model prog w) hD
  have L2 := looks_isT (M := model prog w) hD
  refine wpAny_call (codeAny_call_builtin F.bm_plain F.bm_entry (check_bn hD ?_))
  unfold Builtin.«bytes.__new__»
  refine wpAny_bind (L2.here ?_)
  refine bm_if_false rfl ?_
  refine wpAny_bind (L1.here ?_)
  refine bm_if_false rfl ?_
  refine wpAny_bind (wpAny_of_eq (bind_bn _) ?_)
  refine wpAny_bind (wpAny_of_eq (a := ()) rfl ?_)
  refine wpAny_bind (wpAny_of_eq (a := ()) rfl ?_)
  refine bm_if_false rfl ?_
  refine wpAny_bind (wpAny_specialOf (typeIs_bytes _ _ _) look_bytes_bytes ?_)
  dsimp only
  repeat (first | with_reducible refine wpAny_mkBytes ?_ hz | lk)
  have hp : (Data.prim (Value.bytes b s.toks)).pastItsLine = none := by
    show (if b.size > sizeLine then some "bytes:memory" else none) = none
    rw [if_neg (Nat.not_lt.mpr hz)]
  rw [hp]
  have h1 : ((s.heap.push emptyDict).push (exObj s.heap.objs.size b s.toks)).get? 108 = some oE := Heap.get?_push_of_some _ (Heap.get?_push_of_some _ hD)
  have h2 : ((s.heap.push emptyDict).push (exObj s.heap.objs.size b s.toks)).get? (s.heap.objs.size + 1) = some (exObj s.heap.objs.size b s.toks) := by heap_get
  have h3 := own_rel (M := model prog w) (hr.keeps fun b o e => Heap.get?_push_of_some _ (Heap.get?_push_of_some _ e)) h2
  show wpAny _ _ (newObjAsIs _ _ _) _ _ _
  unfold newObjAsIs classHasDel
  refine wpAny_bind (wpAny_alloc ?_)
  show wpAny _ _ _ _ _ ⟨(s.heap.push emptyDict).push (exObj s.heap.objs.size b s.toks), _, _, _, _⟩
  rw [Heap.size_push]
  refine wpAny_bind (wpAny_bind (wpAny_load h1 (wpAny_pure ?_)))
  refine bm_if_false rfl ?_
  refine wpAny_pure (wpAny_bind (h3.here ?_))
  refine bm_if_false rfl ?_
  exact wpAny_pure (hq _ _)
end
end Mine
end
section
open PySem PySem.W PyProof.Rows PySem.Calls PySem.Spec
set_option maxRecDepth 100000
namespace Mine
open Builtin Builtin.ObjectAttr
theorem refuse_E (self : Value) : refuseLoop self "__setattr__" [.ref 108, .type "bytes", .type "object"] = pure () := by
  rw [refuseLoop_ref]; kernel_rfl
theorem looks_mroE {M : Model} {h : Heap} (hD : h.get? 108 = some oE) : Looks M h (mroOf (.ref 108)) [.ref 108, .type "bytes", .type "object"] := by
  intro A Q E s k q
  have hD' := k _ _ hD
  unfold mroOf
  repeat lk
  exact q
theorem looks_typeX {M : Model} {h : Heap} {x dx : Addr} {b : Array UInt8} {t : Tok} (hx : h.get? x = some (exObj dx b t)) : Looks M h (typeOf (.ref x)) (.ref 108) := (Looks.ld hx).andThen .now
theorem looks_subO {M : Model} {h : Heap} (hD : h.get? 108 = some oE) : Looks M h (isSubtype (.ref 108) (.type "object")) true := by
  intro A Q E s k q
  have hD' := k _ _ hD
  unfold isSubtype
  repeat lk
  exact q
section
variable {prog : Program} {w : World} {A : Around} {E : Value → Shared → Prop} {s : Shared}
theorem osa_ex {x dx : Addr} {b : Array UInt8} {t tk : Tok} {v : Value} {R : Result → Shared → Prop} (hD : s.heap.get? 108 = some oE) (hx : s.heap.get? x = some (exObj dx b t)) (hdx : s.heap.get? dx = some (dictOf [] 0))
    (hid : Looks (model prog w) s.heap (typeLookup (.ref 108) "id") none)
    (h : R (.ok (.ret .none)) { s with heap := s.heap.update dx (Obj.putName "id" (PyData.keyHash w.params "id") (.str "id" s.toks) v), toks := s.toks + 1 }) :
    codeAny (model prog w) A (.call (.builtin "object.__setattr__") ⟨[.ref x, .str "id" tk, v], []⟩) R s := by
  have SF := PySem.F.store_object
  have LT := looks_typeX (M := model prog w) hx
  have LM := looks_mroE (M := model prog w) hD
  have sub : Looks (model prog w) s.heap (isInstance (.ref x) (.type "object")) true := LT.andThen (looks_subO hD)
  refine codeAny_call_builtin SF.slot.plain SF.entry (@check_slot (model prog w) _ _ s "object.__setattr__" "object" "__setattr__" (.ref x) [.str "id" tk, v] [] _ SF.kind SF.split sub (SF.args (.ref x) (.str "id" tk) v) ?_)
  rw [osa_eq, refuse_eq]
  refine wpAny_bind (wpAny_bind (LT.here (wpAny_bind (LM.here ?_))))
  rw [refuse_E]
  refine wpAny_pure (wpAny_bind (LT.here (wpAny_bind (hid.here (wpAny_bind (wpAny_of_eq (a := none) rfl ?_))))))
  dsimp only
  unfold Builtin.ObjectAttr.storeInOwnDict
  repeat lk
  have e : Obj.putName "id" (PyData.keyHash w.params "id") (.str "id" s.toks) v (dictOf [] 0) = dictOf [⟨PyData.keyHash w.params "id", .str "id" s.toks, v⟩] 1 := by rw [putName_dict]; rfl
  have hd' : (s.heap.update dx (Obj.putName "id" (PyData.keyHash w.params "id") (.str "id" s.toks) v)).get? dx = some (dictOf [⟨PyData.keyHash w.params "id", .str "id" s.toks, v⟩] 1) := by
    rw [← e]; exact Heap.get?_update_self _ hdx (by rw [e]; rfl)
  show wpAny _ _ (updatePart dx (some (.str "id" 0)) (Obj.putName "id" (PyData.keyHash w.params "id") (.str "id" s.toks) v)) _ _ _
  refine wpAny_updatePart hdx ?_
  refine wpAny_bind (wpAny_lookBehind hd' rfl ?_)
  exact wpAny_pure h
theorem set_ex {K : Frag} {x dx : Addr} {b : Array UInt8} {t : Tok} {v : Value} {Q : Unit → Shared → Prop} (X : K.In s.heap) (hD : s.heap.get? 108 = some oE) (hx : s.heap.get? x = some (exObj dx b t)) (hdx : s.heap.get? dx = some (dictOf [] 0))
    (hs : findIn K (.ref 108) "__setattr__" = some (some (.builtin "object.__setattr__"))) (hid : findIn K (.ref 108) "id" = some none)
    (h : ∀ h' hs tn, (∀ b o, b ≠ dx → s.heap.get? b = some o → h'.get? b = some o) → h'.get? dx = some (dictOf [⟨hs, .str "id" tn, v⟩] 1) → Q () { s with heap := h', toks := s.toks + 2 }) :
    wpAny (model prog w) A (setAttr (.ref x) "id" v) Q E s := by
  have I : InstAt s.heap x (exObj dx b t) 108 (some (dictOf [] 0)) := ⟨hx, rfl, rfl, hdx⟩
  have e : Obj.putName "id" (PyData.keyHash w.params "id") (.str "id" (s.toks + 1)) v (dictOf [] 0) = dictOf [⟨PyData.keyHash w.params "id", .str "id" (s.toks + 1), v⟩] 1 := by rw [putName_dict]; rfl
  refine set_plain X I hs (osa_ex (s := { s with toks := s.toks + 1 }) hD hx hdx (looks_findIn X hid) ?_)
  refine h _ (PyData.keyHash w.params "id") (s.toks + 1) (fun b o hb e => (Heap.get?_update_ne _ _ _ _ hb).trans e) ?_
  rw [← e]; exact Heap.get?_update_self _ hdx (by rw [e]; rfl)
end
end Mine
end
section
theorem Mine.quietC4 : True := by
  w_top off
  trivial
open PySem PySem.W PyProof.Rows PySem.Calls PySem.Spec
namespace Mine
set_option maxRecDepth 100000
set_option maxHeartbeats 4000000
theorem enterW {prog : Program} {w : World} {A : Around} {s : Shared} {K : Frag} {R : Result → Shared → Prop} {name qual : Str} {params : Arguments} {body : List Stmt} {scope : Scope} {dV kV doc pm cdv ct oc : Value} {an od : Option Addr} {osl : Array (Option Value)} {f cc : Addr} {args : Args} {binds : List (Str × Value)}
    (X : K.In s.heap) (hnl : s.heap.NoLimit) (ho : K.lookup f = some ⟨oc, od, .func (ksFn name qual params body scope dV kV doc pm an cdv ct cc), osl⟩) (hcd : codeIn K cdv qual = true) (hroom : A.depth < recursionLimit)
    (hbind : BindsTo s (ksFn name qual params body scope dV kV doc pm an cdv ct cc) args binds) (hloc : ∀ y ∈ binds, scope.names.lookup y.1 = some .local)
    (h : ∀ h₁, Fr s.heap s.heap.objs.size h₁ (fun y => binds.reverse.lookup y) →
      _root_.PySem.wpAt (model prog w) (A.deeper (ksEnv qual scope s.heap.objs.size f cdv cc)) (.func body (ksEnv qual scope s.heap.objs.size f cdv cc)) (execs body (ksEnv qual scope s.heap.objs.size f cdv cc))
        (fun fl s' => R (.ok (.ret (match fl with | .ret v => v | _ => .none))) s')
        (fun e s' => wpAny (model prog w) (A.deeper (ksEnv qual scope s.heap.objs.size f cdv cc)) (leaving (ksEnv qual scope s.heap.objs.size f cdv cc) e) (fun _ s'' => R (.error e) s'') (fun e' s'' => R (.error e') s'') s')
        { s with heap := h₁, toks := s.toks + binds.length })
    (hcell : ∀ x ∈ scope.names, x.2 ≠ .cell := by decide) (hco : scope.isCoroutine = false := by rfl) (hgen : scope.isGenerator = false := by rfl) (hk : scope.kind = .function := by rfl) : codeAny (model prog w) A (.call (.ref f) args) R s :=
  ks_codeAny_call_defAt (fd := ksFn name qual params body scope dV kV doc pm an cdv ct cc) (body := body) (binds := binds) hroom (X _ _ ho) rfl hnl (codeRec_of X hcd) rfl hbind hcell hloc (fun h₁ hns hk₁ => h h₁ ⟨hns, hk₁, Nat.le_refl _⟩) hco hgen hk
theorem new_spec {w : World} {mean : ExcName → Option Value} {mg mb : Str → Option Value} {dp un : Nat} {gd : Option (List Code)} {cn : Str} {cs : Scope} {a : Addr} {ccd : Value} {cl : List (Str × Addr)} {outer : List Env} {A₀ : Around} {base h₀ : Heap} {L : Addr} {m : Str → Option Value} {s : Shared} {Q E : Value → Shared → Prop}
  {b : Array UInt8} {t : Tok} {v : Value}
  (B : Below A₀ base outer h₀) (F : Fr h₀ L s.heap m) (X : (Mine.hd.heap_39 w.params).In h₀) (T : Top Mine.hd.view_39 (looseW Mine.hd.view_39 [Str.ofString "_Extra"]) mean mg mb h₀) (hk : cs.kind = .function)
  (hz : b.size ≤ sizeLine) (hd : dp < recursionLimit)
  (ret : ∀ x dx t' h' tk', Grown s.heap h' → s.heap.objs.size ≤ dx → x = dx + 1 → h'.get? dx = some emptyDict → h'.get? x = some (exObj dx b t') → Q (.ref x) { s with heap := h', toks := tk' }) :
  wpAny (model PySem.Challenge.rw_kl0365_01.row.prog w) (ktrTop dp un gd cn cs L a ccd cl outer) (call (.ref 67) [.ref 108, .bytes b t, v]) Q E s := by
  revert X; k_fill; intro X
  have XS := X.keeps F.keep
  have TS := T.keeps F.keep
  have hD : s.heap.get? 108 = some oE := XS _ _ (K108 _)
  have hrel : Looks (model PySem.Challenge.rw_kl0365_01.row.prog w) s.heap (typeLookup (.ref 108) "__release_buffer__") none := looks_findIn XS (by k_is)
  have hop : Looks (model PySem.Challenge.rw_kl0365_01.row.prog w) s.heap (opaqueClassAbove (.ref 108)) none := looks_opaque XS (by k_is)
  refine wpAny_call ?_
  refine enterW XS TS.nolimit (by exact rfl) (by k_is) hd (binds_K XS rfl (by k_is) rfl rfl rfl) (locs rfl) (fun h₁ F₁ => ?_)
  have X₁ := XS.keeps F₁.keep
  have T₁ := TS.keeps F₁.keep
  have hD₁ : h₁.get? 108 = some oE := F₁.keep _ _ hD
  refine ks_wpAt_execs_cons (ks_wpAt_Return_some (ks_wpAt_MethodCall ?_))
  refine ks_wpAt_super_base (by rfl) (by rfl) (by rfl) rfl (X₁ 67 _ (by exact rfl)) rfl (by rfl) rfl (X₁ 66 _ (by exact rfl)) rfl (by rfl) (by rfl) (by rfl) ?_
  refine ks_loadName_global rfl rfl (loadGlobal_builtin (TS.g.keeps F₁.keep) (mg_none_of XS TS.g (by k_is)) (TS.b.keeps F₁.keep) ((TS.builtins _ (by decide +kernel)).trans (by first | boot_by_name | rfl | kernel_rfl)) ⟨rfl, ?_⟩)
  refine wpAny_loadName_free rfl rfl rfl ⟨_, X₁ 53 _ (by exact rfl), rfl⟩ ?_
  refine wpAny_loadName_local rfl rfl F₁.ns rfl ?_
  refine (looks_isT hD₁).here ⟨rfl, ?_⟩
  refine call_super_cls hD₁ rfl (looks_subE hD₁) (fun h₂ hso k₂ => ?_)
  have F₂ : Fr s.heap s.heap.objs.size h₂ _ := F₁.keptAll k₂
  have hD₂ : h₂.get? 108 = some oE := F₂.keep _ _ hD
  refine getMethod_so hso hD₂ rfl rfl (hop.keeps F₂.keep) ?_
  have N₂ : News s.heap s.heap.objs.size h₂ [] := News.nil
  have hD := hD₂
  have hrel := hrel.keeps F₂.keep
  clear F₁ X₁ T₁ hD₁ F X T hop
  (try dsimp only)
  k_steps
  refine call_bn hD hrel hz (fun t' k => ?_)
  refine ret (h₂.objs.size + 1) h₂.objs.size t' _ k (fun b o e => Heap.get?_push_of_some _ (Heap.get?_push_of_some _ (F₂.keep b o e))) (Nat.le_of_lt F₂.ns.lt) rfl (Heap.get?_push_of_some _ (Heap.get?_push_size _ rfl)) ?_
  show ((h₂.push emptyDict).push (exObj h₂.objs.size b t')).get? (h₂.objs.size + 1) = _
  heap_get
end Mine
end
section
theorem Mine.quietC5 : True := by
  w_top off
  trivial
open PySem PySem.W PyProof.Rows PySem.Calls PySem.Spec
namespace Mine
theorem inst_ex {h₀ h : Heap} {L x dx : Addr} {b : Array UInt8} {t : Tok} {news : List (Addr × Obj)} {od : Obj} (N : News h₀ L h news) (h1 : (x, exObj dx b t) ∈ news) (h2 : (dx, od) ∈ news) :
    InstAt h x (exObj dx b t) 108 (some od) := ⟨(N _ h1).1, rfl, rfl, (N _ h2).1⟩
set_option maxRecDepth 100000
set_option maxHeartbeats 4000000
local macro_rules | `(tactic| k_inst) => `(tactic| (refine' inst_ex ?N ?h1 ?h2; (case N => k_asm); (case h1 => k_mem); (case h2 => k_mem)))
theorem init_spec {w : World} {mean : ExcName → Option Value} {mg mb : Str → Option Value} {dp un : Nat} {gd : Option (List Code)} {cn : Str} {cs : Scope} {a : Addr} {ccd : Value} {cl : List (Str × Addr)} {outer : List Env} {A₀ : Around} {base h₀ : Heap} {L : Addr} {m : Str → Option Value} {s : Shared} {Q E : Value → Shared → Prop}
  {b bb : Array UInt8} {t tt : Tok} {v : Value} {x dx : Addr}
  (B : Below A₀ base outer h₀) (F : Fr h₀ L s.heap m) (X : (Mine.hd.heap_39 w.params).In h₀) (T : Top Mine.hd.view_39 (looseW Mine.hd.view_39 [Str.ofString "_Extra"]) mean mg mb h₀) (hk : cs.kind = .function)
  (N : News h₀ L s.heap [(x, exObj dx b t), (dx, dictOf [] 0)]) (hx : dx < x)
  (hd : dp < recursionLimit)
  (ret : ∀ h' tk' hs tn, (∀ b o, b ≠ dx → s.heap.get? b = some o → h'.get? b = some o) → h'.get? dx = some (dictOf [⟨hs, .str "id" tn, v⟩] 1) → Q .none { s with heap := h', toks := tk' }) :
  wpAny (model PySem.Challenge.rw_kl0365_01.row.prog w) (ktrTop dp un gd cn cs L a ccd cl outer) (call (.ref 75) [.ref x, .bytes bb tt, v]) Q E s := by
  revert X; k_fill; intro X
  refine wpAny_call ?_
  k_dflt (refine' enterP ?k1 ?k2 ?k3 ?k4 ?k5 ?kA ?kF ?kK ?k6 ?k7 ?k8 ?k9 ?kB ?_ ?c2 ?c3 ?c4 ?c5; (case kA => exact rfl); (case kF => exact rfl); (case kK => assumption); (case k1 => k_asm); (case k2 => k_asm); (case k3 => k_asm); (case k4 => k_asm); (case k5 => k_asm); (case k6 => k_is); (case k7 => k_is); (case k8 => ktr_room); (case k9 => exact binds_K (by k_in) rfl (by k_is) rfl rfl rfl); (case c5 => decide); (case kB => exact locs rfl); (case c2 => exact rfl); (case c3 => exact rfl); (case c4 => exact rfl); k_whole; intro g' L' h' FG' F' N' B' X' T' l1 hg9 hL9; k_lt l1; (try dsimp only); (try k_fold))
  k_steps
  refine set_ex (X'.keeps F'.keep) ((X'.keeps F'.keep) _ _ (K108 _)) (N'.get (List.Mem.head _)) (N'.get (List.Mem.tail _ (List.Mem.head _))) (by k_is) (by k_is) (fun h' hs tn kp hdx => ?_)
  have F'' : Fr g' L' h' _ := ⟨F'.ns.at fun o e => kp L' o (Nat.ne_of_gt l1.2) e, fun b o e => kp b o (fun z => by have := (N' _ (List.Mem.tail _ (List.Mem.head _))).2.2; rw [← z, e] at this; cases this) (F'.keep b o e), F'.above⟩
  have N'' : News g' L' h' [(x, exObj dx b t), (dx, dictOf [⟨hs, .str "id" tn, v⟩] 1)] := fun p hp => by
    rcases List.mem_cons.mp hp with rfl | hp
    · exact ⟨kp _ _ (Nat.ne_of_gt hx) (N' _ (List.Mem.head _)).1, (N' _ (List.Mem.head _)).2⟩
    · obtain rfl := List.mem_singleton.mp hp
      exact ⟨hdx, (N' _ (List.Mem.tail _ (List.Mem.head _))).2⟩
  have hF9 := F''.keep
  clear F' N' FG'
  k_steps
  refine ret _ _ hs tn (fun b o hb e => ?_) hdx
  by_cases hbx : b = x
  · subst hbx
    rw [N.get (List.Mem.head _)] at e
    cases e
    exact N''.get (List.Mem.head _)
  · exact hF9 b o (hg9 b o e (by simp [hb, hbx]))
end Mine
end
section
open PySem PySem.W PyProof.Rows PySem.Calls PySem.Spec
namespace Mine
set_option maxRecDepth 100000
set_option maxHeartbeats 4000000
theorem make_ext {w : World} {mean : ExcName → Option Value} {mg mb : Str → Option Value} {dp un : Nat} {gd : Option (List Code)} {cn : Str} {cs : Scope} {a : Addr} {ccd : Value} {cl : List (Str × Addr)} {outer : List Env} {A₀ : Around} {base h₀ : Heap} {L : Addr} {m : Str → Option Value} {s : Shared} {Q E : Value → Shared → Prop}
  {b : Array UInt8} {t : Tok} {v : Value}
  (B : Below A₀ base outer h₀) (F : Fr h₀ L s.heap m) (X : (Mine.hd.heap_39 w.params).In h₀) (T : Top Mine.hd.view_39 (looseW Mine.hd.view_39 [Str.ofString "_Extra"]) mean mg mb h₀) (hk : cs.kind = .function)
  (hz : b.size ≤ sizeLine) (hd : dp + 1 < recursionLimit)
  (ret : ∀ x dx t' h' tk' hs tn, Grown s.heap h' → s.heap.objs.size ≤ dx → x = dx + 1 → h'.get? dx = some (dictOf [⟨hs, .str "id" tn, v⟩] 1) → h'.get? x = some (exObj dx b t') → Q (.ref x) { s with heap := h', toks := tk' }) :
  wpAny (model PySem.Challenge.rw_kl0365_01.row.prog w) (ktrTop dp un gd cn cs L a ccd cl outer) (call (.ref 108) [.bytes b t, v]) Q E s := by
  revert X; k_fill; intro X
  have XS := X.keeps F.keep
  have hD : s.heap.get? 108 = some oE := XS _ _ (K108 _)
  have call' : Looks (model PySem.Challenge.rw_kl0365_01.row.prog w) s.heap (specialOf (.ref 108) "__call__") (some (.builtin "type.__call__")) := looks_specialIn XS (by k_is)
  have typ : Looks (model PySem.Challenge.rw_kl0365_01.row.prog w) s.heap (isInstance (.ref 108) (.type "type")) true := looks_instIn XS (by k_is)
  have hm := looks_mroE (M := model PySem.Challenge.rw_kl0365_01.row.prog w) hD
  have hmade := looks_made (M := model PySem.Challenge.rw_kl0365_01.row.prog w) hD
  refine wpAny_call (codeAny_of_tree ?_)
  show wpAny _ _ (callAny (.ref 108) _) _ _ _
  refine nd_load hD ?_
  show wpAny _ _ (callAny.viaDunder (.ref 108) _) _ _ _
  unfold callAny.viaDunder
  refine wpAny_bind (call'.here ?_)
  dsimp only
  rw [tc_bind]
  refine wpAny_bind (wpAny_pure (wpAny_bind (wpAny_pure ?_)))
  refine wpAny_pure (a := Fin.again (.call (.builtin "type.__call__") ⟨[.ref 108, .bytes b t, v], []⟩)) (And.intro rfl ?_)
  refine codeAny_call_builtin_at (Code.quiet_builtin _ (by decide +kernel)) entry_typeCall (check_slot tc_kind tc_split typ (tc_args _ _ _) ?_)
  unfold Builtin.«type.__call__»
  refine bm_if_false rfl ?_
  refine wpAny_bind (hm.here ?_)
  refine bm_if_false rfl ?_
  refine wpAny_bind (hmade.here ?_)
  dsimp only
  refine wpAny_bind (cls_sm F X (mc := .type "type") (by k_is) (by k_is) (by k_is) (by k_is) (by k_handed) ?_)
  refine wpAny_bind (wpAny_holding ?_)
  refine new_spec (s := { s with toks := s.toks + 1 }) B F X ‹_› hk hz (show dp + 1 < recursionLimit from hd) (fun x dx t' h' tk' hg hdx hxe h1 h2 => ?_)
  have F₁ : Fr h₀ L h' m := F.keptAll hg
  have hD₁ : h'.get? 108 = some oE := hg _ _ hD
  have hdx' : h'.get? dx = some (dictOf [] 0) := h1
  have I : InstAt h' x (exObj dx b t') 108 (some (dictOf [] 0)) := ⟨h2, rfl, rfl, hdx'⟩
  have hins : Looks (model PySem.Challenge.rw_kl0365_01.row.prog w) h' (isInstance (.ref x) (.ref 108)) true := (looks_typeX h2).andThen (looks_subE hD₁)
  have N₁ : News h₀ L h' [(x, exObj dx b t'), (dx, dictOf [] 0)] := News.put F (News.put F News.nil hdx hdx') (by rw [hxe]; exact Nat.le_succ_of_le hdx) h2
  refine wpAny_bind (hins.here ?_)
  refine bm_if_false rfl ?_
  refine wpAny_bind (wpAny_holding ?_)
  refine special_fn (X.keeps F₁.keep) I (by k_is) (by k_is) ?_
  refine init_spec (s := { s with heap := h', toks := tk' }) B F₁ X ‹_› hk N₁ (by rw [hxe]; exact Nat.lt_succ_self dx) (show dp + 1 < recursionLimit from hd) (fun h'' tk'' hs tn kp hdx2 => ?_)
  dsimp only
  refine bm_if_false rfl ?_
  refine wpAny_pure ?_
  have hxd : x ≠ dx := by rw [hxe]; exact Nat.succ_ne_self dx
  exact ret x dx t' h'' tk'' hs tn (fun b o e => kp b o (fun z => by rw [z] at e; exact absurd (Heap.lt_size e) (Nat.not_lt.mpr hdx)) (hg b o e)) hdx hxe hdx2 (kp _ _ hxd h2)
end Mine
end
section
open PySem PySem.W PyProof.Rows PySem.Calls PySem.Spec
set_option maxRecDepth 100000
namespace Mine
def frs (l : List Env) : List Addr := l.filterMap (·.frame)
/-- all stands as it stood; the frames' own dicts up to their slots -/
structure Kept (fs : List Addr) (h h' : Heap) : Prop where
  other : ∀ b o, h.get? b = some o → b ∉ fs → h'.get? b = some o
  frame : ∀ b o, h.get? b = some o → b ∈ fs → ∃ sl, h'.get? b = some { o with slots := sl }
theorem Kept.of_grown {fs : List Addr} {h h' : Heap} (k : Grown h h') : Kept fs h h' := ⟨fun b o e _ => k b o e, fun b o e _ => ⟨o.slots, k b o e⟩⟩
theorem Kept.trans {fs : List Addr} {h₁ h₂ h₃ : Heap} (x : Kept fs h₁ h₂) (y : Kept fs h₂ h₃) : Kept fs h₁ h₃ :=
  ⟨fun b o e m => y.other b o (x.other b o e m) m, fun b o e m => by
    obtain ⟨s1, e1⟩ := x.frame b o e m
    obtain ⟨s2, e2⟩ := y.frame b _ e1 m
    exact ⟨s2, e2⟩⟩
theorem Kept.up {fs : List Addr} {h h' : Heap} (x : Kept fs h h') {b : Addr} {o : Obj} (e : h.get? b = some o) : ∃ sl, h'.get? b = some { o with slots := sl } := by
  by_cases m : b ∈ fs
  · exact x.frame b o e m
  · exact ⟨o.slots, x.other b o e m⟩
theorem Kept.mono {fs fs' : List Addr} {h h' : Heap} (x : Kept fs h h') (hs : ∀ b ∈ fs, b ∈ fs') : Kept fs' h h' :=
  ⟨fun b o e m => x.other b o e fun q => m (hs b q), fun _ _ e _ => x.up e⟩
theorem Kept.drop {fs : List Addr} {L : Addr} {h h' : Heap} (x : Kept (L :: fs) h h') (hL : h.get? L = none) : Kept fs h h' :=
  ⟨fun b o e m => x.other b o e (by
    intro q
    rcases List.mem_cons.mp q with z | z
    · rw [z, hL] at e; cases e
    · exact m z), fun _ _ e _ => x.up e⟩
section
variable {A₀ : Around} {base g h h' : Heap} {envs : List Env} {L : Addr} {m mg mb : Str → Option Value} {K : Frag} {p : Program} {loose : List Str} {mean : ExcName → Option Value}
theorem turned (B : Below A₀ base envs g) (F : Fr g L h m) (k : Kept (L :: frs envs) h h') (XB : K.In base) (TB : Top p loose mean mg mb base) :
    ∃ g', KtsTurn (frs envs) g g' ∧ Below A₀ base envs g' ∧ Fr g' L h' m ∧ K.In g' ∧ Top p loose mean mg mb g' ∧ ∀ news, News g L h news → News g' L h' news := by
  have gL := kts_self F
  obtain ⟨T, T2⟩ := kts_turn_at (fs := frs envs) (g := g) (h := h') (fun b hb => by obtain ⟨_, o, ho, _⟩ := B.frames.mem hb; exact ⟨o, ho⟩)
    (fun b o e nm => k.other b o (F.keep b o e) (by
      intro q
      rcases List.mem_cons.mp q with z | z
      · rw [z, gL] at e; cases e
      · exact nm z))
    (fun b o e hb => k.frame b o (F.keep b o e) (List.mem_cons_of_mem _ hb))
  have st : base.StaysIn (ktsHeap h' (frs envs) g) := fun b o e => T.other b o (B.stays b o e) fun hb => by rw [(B.frames.mem hb).1] at e; cases e
  refine ⟨_, T, ⟨B.stack, st, B.frames.of_keeps fun b o e _ => ?_⟩, ⟨?_, T2, ?_⟩, XB.keeps st, TB.keeps st, fun news N q hq => ⟨?_, (N q hq).2.1, T.none_ _ (N q hq).2.2⟩⟩
  · obtain ⟨sl, e'⟩ := T.up e; exact ⟨_, e', rfl⟩
  · obtain ⟨o, es, ep, ho, hd, r⟩ := F.ns
    obtain ⟨sl, e'⟩ := k.up ho
    exact ⟨_, es, ep, e', hd, r⟩
  · rw [T.size]; exact F.above
  · refine k.other _ _ (N q hq).1 fun z => ?_
    rcases List.mem_cons.mp z with z | z
    · exact (N q hq).2.1 z
    · obtain ⟨_, o, ho, _⟩ := B.frames.mem z
      rw [(N q hq).2.2] at ho; cases ho
end
section
variable {prog : Program} {w : World} {A A₁ : Around} {E : Value → Shared → Prop} {s' : Shared} {base g h : Heap} {env : Env} {outer : List Env} {L e : Addr} {m : Str → Option Value} {X : String} {Q : Unit → Shared → Prop}
theorem noted_first (hfr : A.frames = some (env :: outer)) (hf : env.frame = some L) (hl : h.FunFrames base (env :: outer)) (st : base.StaysIn h) (hx : Heap.NewExc h s'.heap e X)
    (k : ∀ h', (∃ t, Heap.HeldW base (env :: outer) e (.type X) t L h') → s'.heap.UpToSlots h' → Q () { s' with heap := h' }) :
    wpAny (model prog w) A (noteFrame (.ref e) env) Q E s' := by
  obtain ⟨ob, tp, he, hcls, hd⟩ := hx.there
  have hen : base.get? e = none := by
    cases hq : base.get? e with
    | none => rfl
    | some o' => have := st e o' hq; rw [hx.new] at this; cases this
  unfold noteFrame
  simp only [hf]
  refine wpAny_bind (wpAny_field he hd (x := .none) rfl ?_)
  rw [if_neg (by decide)]
  refine wpAny_entryW hfr (hl.of_keeps fun b o hb _ => ⟨o, hx.keeps b o hb, rfl⟩) hf he (fun b o hb => hx.keeps b o (st b o hb)) hen hd (by simp) (a0 := tp) rfl fun h' hN => ?_
  obtain ⟨k1, k2, k3, k4⟩ := hN
  rw [hcls] at k3
  exact k h' ⟨tp, k1, hen, k2, k3⟩ k4
end
section
variable {prog : Program} {w : World} {A₁ A₀ : Around} {E : Value → Shared → Prop} {s' : Shared} {base g h : Heap} {outer : List Env} {L a e : Addr} {m mg mb : Str → Option Value} {name : Str} {scope : Scope} {cd : Value} {X : String} {Q : Flow → Shared → Prop}
  {b₀ : Stmt} {suite : List Stmt} {pos np : Pos} {x : Str} {K : Frag} {p : Program} {loose : List Str} {mean : ExcName → Option Value} {T' : String}
theorem caught_here (B : Below A₁ base outer g) (F : Fr g L h m) (hx : Heap.NewExc h s'.heap e X) (XB : K.In base) (TB : Top p loose mean mg mb base)
    (hn : nsIn K mainGlobals x = some (some (.type T'))) (hexc : isSubtype (.type T') (.type "BaseException") = pure true) (hnt : isSubtype (.type ((Manifest.find? T').elim "type" fun y => y.metatype)) (.type "tuple") = pure false) (hsub : isSubtype (.type X) (.type T') = pure true)
    (k : ∀ h', Kept (L :: frs outer) h h' → wpAny (model prog w) ((A₁.deeper (envX name scope L a cd [])).mark (some (.ref e))) (execs (b₀ :: suite) (envX name scope L a cd [])) Q E { s' with heap := h' })
    (hk : scope.kind = .function := by rfl) (hxk : (envX name scope L a cd []).kindOf x = some .globalImplicit := by rfl) (hd : (x == ("__debug__" : Str)) = false := by decide)
    (hE : PassesOwnAt (model prog w) ((A₁.deeper (envX name scope L a cd [])).mark (some (.ref e))) (A₁.deeper (envX name scope L a cd [])) (envX name scope L a cd []) E := by passes_own) :
    wpAny (model prog w) (A₁.deeper (envX name scope L a cd [])) (noteFrame (.ref e) (envX name scope L a cd []))
      (fun _ s₂ => wpAny (model prog w) (A₁.deeper (envX name scope L a cd [])) (setFlight (.ref e) none) (fun _ s₃ =>
        wpAny (model prog w) (A₁.deeper (envX name scope L a cd [])) (handleBy (.ref e) (envX name scope L a cd []) [.ExceptHandler (some (.Name x np)) none (b₀ :: suite) pos]) Q E s₃) E s₂) E s' := by
  have B' := pushX B F (env := envX name scope L a cd []) rfl hk
  have hfs : frs (envX name scope L a cd [] :: outer) = L :: frs outer := rfl
  -- the ground: all but the frames
  have stH : ∀ b o, (hideAll h (L :: frs outer)).get? b = some o → h.get? b = some o := fun b o e => of_hideAll _ e
  have hidden : ∀ b ∈ (L :: frs outer), (hideAll h (L :: frs outer)).get? b = none := fun b hb => hideAll_none _ hb
  have FF : h.FunFrames (hideAll h (L :: frs outer)) (envX name scope L a cd [] :: outer) :=
    funFrames_hide B'.frames (as := L :: frs outer) fun env he b hb => List.mem_filterMap.mpr ⟨env, he, hb⟩
  refine noted_first (Around.frames_deeper B.stack) rfl FF stH hx fun h₁ hH up₁ => ?_
  obtain ⟨t, hH⟩ := hH
  refine wpAny_landsW hH fun h₂ hF₂ up₂ => ?_
  have upA : h.UpToSlots h₂ := ((Heap.UpToSlots.of_keeps hx.keeps).trans up₁).trans up₂
  have baseH : ∀ b o, base.get? b = some o → (hideAll h (L :: frs outer)).get? b = some o := fun b o e => hideAll_get _ (B'.stays b o e) fun q => by
    have := (B'.frames.mem (show b ∈ (envX name scope L a cd [] :: outer).filterMap (·.frame) from q)).1
    rw [e] at this; cases this
  have XB₂ : K.In h₂ := XB.keeps fun b o e => hF₂.1 b o (baseH b o e)
  have TB₂ : Top p loose mean mg mb h₂ := TB.keeps fun b o e => hF₂.1 b o (baseH b o e)
  obtain ⟨ob, hob, hobc⟩ := hF₂.there
  refine wpAny_handleBy_builtin (X := X) (T := T') (b := true) hexc hnt hsub (Name_function_global hk hxk (loadGlobal_global (env := envX name scope L a cd []) TB₂.g (mg_of XB₂ TB₂.g hn) ⟨rfl, ⟨ob, hob, hobc⟩, ?_⟩) hd)
  refine lands_againW hF₂ fun h₃ hF₃ up₃ => wpAny_passesOwnAt hE (k h₃ ⟨fun b o e nb => hF₃.1 b o (hideAll_get _ e nb), fun b o e hb => ?_⟩)
  obtain ⟨_, o', ho', hnf⟩ := B'.frames.mem (show b ∈ (envX name scope L a cd [] :: outer).filterMap (·.frame) from hb)
  rw [e] at ho'; cases ho'
  exact (upA.trans up₃) b o e hnf
end
end Mine
end
section
theorem Mine.quietC7 : True := by
  w_top off
  trivial
open PySem PySem.W PyProof.Rows PySem.Calls PySem.Spec
namespace Mine
theorem enterT {prog : Program} {w : World} {A : Around} {s : Shared} {K : Frag} {R : Result → Shared → Prop} {name qual : Str} {params : Arguments} {body : List Stmt} {scope : Scope} {dV kV doc pm cdv ct oc : Value} {an od : Option Addr} {osl : Array (Option Value)} {f : Addr} {args : Args} {binds : List (Str × Value)}
    (X : K.In s.heap) (hnl : s.heap.NoLimit) (ho : K.lookup f = some ⟨oc, od, .func (fnX name qual params body scope [] dV kV doc pm an cdv ct), osl⟩) (hcd : codeIn K cdv qual = true) (hroom : A.depth < recursionLimit)
    (hbind : BindsTo s (fnX name qual params body scope [] dV kV doc pm an cdv ct) args binds) (hloc : ∀ y ∈ binds, scope.names.lookup y.1 = some .local)
    (h : ∀ h₁, Fr s.heap s.heap.objs.size h₁ (fun y => binds.reverse.lookup y) → News s.heap s.heap.objs.size h₁ [] →
      wpAny (model prog w) (A.deeper (envX qual scope s.heap.objs.size f cdv [])) (execs body (envX qual scope s.heap.objs.size f cdv []))
        (fun fl s' => R (.ok (.ret (match fl with | .ret v => v | _ => .none))) s')
        (fun e s' => wpAny (model prog w) (A.deeper (envX qual scope s.heap.objs.size f cdv [])) (leaving (envX qual scope s.heap.objs.size f cdv []) e) (fun _ s'' => R (.error e) s'') (fun e' s'' => R (.error e') s'') s')
        { s with heap := h₁, toks := s.toks + binds.length })
    (hcell : ∀ x ∈ scope.names, x.2 ≠ .cell := by decide) (hco : scope.isCoroutine = false := by rfl) (hgen : scope.isGenerator = false := by rfl) (hk : scope.kind = .function := by rfl) : codeAny (model prog w) A (.call (.ref f) args) R s :=
  codeAny_call_def (fd := fnX name qual params body scope [] dV kV doc pm an cdv ct) (body := body) (binds := binds) hroom (X _ _ ho) rfl hnl (codeRec_of X hcd) rfl hbind hcell hloc (fun h₁ hns hk₁ => h h₁ ⟨hns, hk₁, Nat.le_refl _⟩ News.nil) hco hgen hk
theorem Kept.of_turn {fs : List Addr} {g g' h' : Heap} {L' : Addr} {m : Str → Option Value} (T : KtsTurn fs g g') (F : Fr g' L' h' m) : Kept fs g h' :=
  ⟨fun b o e m => F.keep b o (T.other b o e m), fun b o e m => by obtain ⟨sl, z⟩ := T.frame b o e m; exact ⟨sl, F.keep _ _ z⟩⟩
theorem clip_pos {n : Nat} {z : Int} (h : 0 ≤ z) : clipAt n z = min z.toNat n := by
  obtain ⟨k, rfl⟩ := Int.eq_ofNat_of_zero_le h
  rw [clipAt_nat]; simp
theorem take_clip {ks : List Int} {z : Int} (h : 0 ≤ z) : List.take (clipAt ks.length z) ks = List.take z.toNat ks := by
  rw [clip_pos h, List.take_eq_take_iff]; omega
theorem drop_clip {ks : List Int} {z : Int} (h : 0 ≤ z) : List.take (ks.length - clipAt ks.length z) (List.drop (clipAt ks.length z) ks) = List.drop z.toNat ks := by
  rw [List.take_of_length_le (by rw [List.length_drop]; exact Nat.le_refl _), clip_pos h]
  rcases Nat.le_total z.toNat ks.length with q | q
  · rw [Nat.min_eq_left q]
  · rw [Nat.min_eq_right q, List.drop_of_length_le (Nat.le_refl _), List.drop_of_length_le q]
/-- what read_one tells of the octets ks: the id, the piece, the rest -/
def OneOut (ks : List Int) (v : Value) (pk rk : List Int) : Prop :=
  (ks.length < 4 ∧ v = .none ∧ pk = ks ∧ rk = []) ∨
  (∃ k0 k1 k2 k3 rest tk, ks = k0 :: k1 :: k2 :: k3 :: rest ∧ v = .int (k0 + 256 * k1) tk ∧ 0 ≤ k2 + 256 * k3 ∧ pk = ks.take (4 + (k2 + 256 * k3)).toNat ∧ rk = ks.drop (4 + (k2 + 256 * k3)).toNat)
theorem four_of {b : Array UInt8} {ks : List Int} (hb : KBw.bInts b = List.take (clipAt ks.length 4) ks) (h : ¬ ks.length < 4) :
    ∃ x0 x1 x2 x3 rest, b = #[x0, x1, x2, x3] ∧ ks = (x0.toNat : Int) :: (x1.toNat : Int) :: (x2.toNat : Int) :: (x3.toNat : Int) :: rest := by
  rw [take_clip (by decide)] at hb
  obtain ⟨l⟩ := b
  match ks, h with
  | k0 :: k1 :: k2 :: k3 :: rest, _ =>
    have e : (l.map fun c => (c.toNat : Int)) = [k0, k1, k2, k3] := hb
    match l, e with
    | [x0, x1, x2, x3], e =>
      simp only [List.map_cons, List.map_nil, List.cons.injEq, and_true] at e
      obtain ⟨rfl, rfl, rfl, rfl⟩ := e
      exact ⟨x0, x1, x2, x3, rest, rfl, rfl⟩
  | [], h => exact absurd (by decide) h
  | [_], h => exact absurd (by simp) h
  | [_, _], h => exact absurd (by simp) h
  | [_, _, _], h => exact absurd (by simp) h
theorem K58 (P : Params) : (Mine.hd.heap_39 P).lookup 58 = some ⟨.type "_struct.Struct", none, .fields #[.bytes #[60, 72, 72] 345], #[]⟩ := rfl
theorem unpack_methodK {M : Model} {A : Around} {E : Value → Shared → Prop} {s : Shared} {P : Params} {h₀ : Heap} {L : Addr} {m : Str → Option Value} {pl : Sem Bool} {Q : Value × List Value → Shared → Prop} (F : Fr h₀ L s.heap m) (X : (Mine.hd.heap_39 P).In h₀)
    (h : Q (.builtin "_struct.Struct.unpack", [.ref 58]) s) : wpAny M A (getMethod (.ref 58) "unpack" pl) Q E s := unpack_method (F.keep _ _ (X _ _ (K58 P))) h
set_option maxRecDepth 100000
set_option maxHeartbeats 4000000
local macro_rules | `(tactic| walk_at "getMethod ref") => `(tactic| (k_here; (with_reducible show wpAny _ _ (getMethod (Value.ref 58) _ _) _ _ _); k_dflt (refine unpack_methodK (by assumption) (by assumption) ?_)))
local macro_rules | `(tactic| walk_at "call ref") => `(tactic| (k_here; (with_reducible show wpAny _ _ (call (Value.ref 108) _) _ _ _); (with_reducible rename Fr _ _ _ _ => oF); (with_reducible rename News _ _ _ _ => oN); k_dflt (refine make_ext (by assumption) oF (by assumption) (by assumption) rfl (Nat.le_trans (KBc.size_picked_le _ _ _) (by assumption)) (by assumption) ?_); intro x9 dx9 t9 h9 tk9 hs9 tn9 hg9 hle9 hxe9 hd9 hx9; have F' := oF.keptAll hg9; have N' := News.put oF (News.put oF (oN.grown hg9) hle9 hd9) (by rw [hxe9]; exact Nat.le_succ_of_le hle9) hx9; have lt9 := Nat.le_of_lt (Nat.lt_of_lt_of_le oF.ns.lt hle9); clear oF oN))
theorem one_spec {w : World} {mean : ExcName → Option Value} {mg mb : Str → Option Value} {dp un : Nat} {gd : Option (List Code)} {cn : Str} {cs : Scope} {a : Addr} {ccd : Value} {cl : List (Str × Addr)} {outer : List Env} {A₀ : Around} {base h₀ : Heap} {L : Addr} {m : Str → Option Value} {s : Shared} {Q E : Value → Shared → Prop}
  {b : Array UInt8} {t : Tok} {ks : List Int}
  (B : Below A₀ base outer h₀) (F : Fr h₀ L s.heap m) (XB : (Mine.hd.heap_39 w.params).In base) (TB : Top Mine.hd.view_39 (looseW Mine.hd.view_39 [Str.ofString "_Extra"]) mean mg mb base) (hk : cs.kind = .function)
  (hb : KBw.bInts b = ks) (hz : ks.length < 1000000)
  (hd : dp + 8 < recursionLimit)
  (ret : ∀ p x dx t' hs tn u r pb v h' tk', Kept (L :: frs outer) s.heap h' → s.heap.objs.size ≤ dx → x = dx + 1 → x < p → h'.get? dx = some (dictOf [⟨hs, .str "id" tn, v⟩] 1) → h'.get? x = some (exObj dx pb t') →
    h'.get? p = some { cls := .type "tuple", data := .seq #[.ref x, .bytes r u] } → OneOut ks v (KBw.bInts pb) (KBw.bInts r) → Q (.ref p) { s with heap := h', toks := tk' }) :
  codeAny (model PySem.Challenge.rw_kl0365_01.row.prog w) (ktrTop dp un gd cn cs L a ccd cl outer) (.call (.ref 82) ⟨[.ref 108, .bytes b t], []⟩) (fun r s' => match r with | .ok (.ret v) => Q v s' | .ok _ => False | .error e => E e s') s := by
  revert XB; k_fill; intro XB
  have XS := (XB.keeps B.stays).keeps F.keep
  have TS := (TB.keeps B.stays).keeps F.keep
  have BS : Below (ktrTop dp un gd cn cs L a ccd cl outer) base (envX cn cs L a ccd cl :: outer) s.heap := by
    have := pushX B F (env := envX cn cs L a ccd cl) rfl hk
    exact ⟨rfl, this.stays, this.frames⟩
  refine enterT XS TS.nolimit (by exact rfl) (by k_is) (show dp < recursionLimit from Nat.lt_of_le_of_lt (Nat.le_add_right _ _) hd) (BindsTo.of_eq rfl) (locs rfl) (fun h₁ F₁ N₁ => ?_)
  have hXT := And.intro XB TB
  have hKF := F.keep
  clear F B XB TB
  have hbz : b.size ≤ sizeLine := by rw [← KBw.ints_length, hb, sizeLine_eq]; omega
  have hd9 : dp + 1 + 1 < recursionLimit := by omega
  (try dsimp only)
  k_steps
  refine wpAny_Try_except ?_
  k_fold
  k_steps
  (with_reducible rename Fr _ _ _ _ => F9)
  by_cases h4 : ks.length < 4
  · refine unpack_bad (tk := 345) rfl (F9.keep _ _ (XS _ _ (K58 _))) ?_ (fun h' tk' e hx => ?_)
    · rename_i kb
      rw [← KBw.ints_length, kb, take_clip (by decide), List.length_take]; omega
    · k_unfold
      refine caught_here BS F9 hx hXT.1 hXT.2 (x := "error") (T' := "struct.error") (by k_is) (isSubtype_of_subB (by decide +kernel)) (isSubtype_of_subB (by decide +kernel)) (isSubtype_of_subB (by decide +kernel)) (fun h5 k5 => ?_)
      obtain ⟨g5, T5, B5, F5, X5, TT5, N5⟩ := turned BS F9 k5 hXT.1 hXT.2
      have N6 := N5 [] News.nil
      clear N5 BS XS TS F9
      k_steps
      rename KBw.bInts (KBy.picked b none (some (4 + 0))) = _ => q1
      rename KBw.bInts (KBy.picked b (some (4 + 0)) none) = _ => q2
      rename News _ _ _ _ => NN
      rename Fr _ _ _ _ => FF
      rename (_ < _) ∧ _ => ll
      rw [take_clip (z := 4 + 0) (by decide)] at q1
      rw [drop_clip (z := 4 + 0) (by decide)] at q2
      refine ret _ _ _ _ _ _ _ _ _ _ _ _ (Kept.of_turn T5 FF) (by assumption) (by assumption) ll.1 (NN.get (.tail _ (.tail _ (.head _)))) (NN.get (.tail _ (.head _))) (NN.get (.head _)) (.inl ⟨h4, rfl, ?_, ?_⟩)
      · rw [q1, List.take_of_length_le]; exact Nat.le_of_lt h4
      · rw [q2, List.drop_of_length_le]; exact Nat.le_of_lt h4
  · rename_i kb
    generalize hpb : KBy.picked b none (some 4) = pb at *
    obtain ⟨x0, x1, x2, x3, rest, rfl, hks⟩ := four_of kb h4
    refine unpack_ok (tk := 345) (F9.keep _ _ (XS _ _ (K58 _))) (fun u v => ?_)
    have F' := F9.push { cls := .type "tuple", data := .seq #[.int ((x0.toNat : Int) + 256 * x1.toNat) u, .int ((x2.toNat : Int) + 256 * x3.toNat) v] }
    have N' := News.push F9 News.nil { cls := .type "tuple", data := .seq #[.int ((x0.toNat : Int) + 256 * x1.toNat) u, .int ((x2.toNat : Int) + 256 * x3.toNat) v] }
    clear F9
    k_steps
    rename KBw.bInts (KBy.picked b none (some (4 + _))) = _ => q1
    rename KBw.bInts (KBy.picked b (some (4 + _)) none) = _ => q2
    rename News _ _ _ _ => NN
    rename Fr _ _ _ _ => FF
    rename (_ < _) ∧ _ => ll
    have nn : 0 ≤ 4 + ((x2.toNat : Int) + 256 * (x3.toNat : Int)) := by omega
    rw [take_clip (z := 4 + ((x2.toNat : Int) + 256 * (x3.toNat : Int))) nn] at q1
    rw [drop_clip (z := 4 + ((x2.toNat : Int) + 256 * (x3.toNat : Int))) nn] at q2
    exact ret _ _ _ _ _ _ _ _ _ _ _ _ (Kept.of_grown FF.keep) (by assumption) (by assumption) ll.1 (NN.get (.tail _ (.tail _ (.head _)))) (NN.get (.tail _ (.head _))) (NN.get (.head _)) (.inr ⟨_, _, _, _, rest, _, hks, rfl, by omega, q1, q2⟩)
end Mine
end
section
open PySem PySem.W PyProof.Rows PySem.Calls PySem.Spec
namespace Mine
/-- what is written: an open list of fields, with an end or none -/
inductive T | nil | leaf (i : Option Int) (bs : List Int) | fld (n : Int) (kids rest : T)
def enc : T → List Int
  | .nil => []
  | .leaf _ bs => bs
  | .fld n k r => hdr n (enc k).length ++ (enc k ++ enc r)
/-- what a leaf may be: less than a field's head, or a field cut short -/
def LeafOK (i : Option Int) (ks : List Int) : Prop := match i with
  | none => ks.length < 4
  | some n => 0 ≤ n ∧ n < 65536 ∧ ∃ (z : Nat) (r : List Int), z < 65536 ∧ ks = hdr n z ++ r ∧ r.length < z
theorem EndOK.leaf {i : Option Int} {ks : List Int} (h : EndOK i ks) : LeafOK i ks := by
  cases i with
  | none => exact h
  | some n =>
    obtain ⟨h0, h1, z, r, hz, e, _, hr⟩ := h
    exact ⟨h0, h1, z, r, hz, e, hr⟩
def WF : T → Prop
  | .nil => True
  | .leaf i bs => LeafOK i bs ∧ bs ≠ []
  | .fld n k r => 0 ≤ n ∧ n < 65536 ∧ (enc k).length < 65536 ∧ WF k ∧ WF r
def dep : T → Nat
  | .nil => 0
  | .leaf _ _ => 0
  | .fld _ k r => max (dep k + 1) (dep r)
def siz : T → Nat
  | .nil => 0
  | .leaf _ _ => 1
  | .fld _ k r => siz k + siz r + 1
theorem hdr_back (n : Int) : n.fmod 256 + 256 * n.fdiv 256 = n := by
  rw [Int.fmod_eq_emod_of_nonneg _ (by decide : (0 : Int) ≤ 256), Int.fdiv_eq_ediv_of_nonneg _ (by decide : (0 : Int) ≤ 256)]; omega
theorem out_none {ks pk rk : List Int} {v : Value} (h : OneOut ks v pk rk) (hk : ks.length < 4) : v = .none ∧ pk = ks ∧ rk = [] := by
  rcases h with ⟨_, h⟩ | ⟨k0, k1, k2, k3, rest, tk, rfl, _⟩
  · exact h
  · simp only [List.length_cons] at hk; omega
theorem out_hdr {n : Int} {z : Nat} {r : List Int} {pk rk : List Int} {v : Value} (h : OneOut (hdr n z ++ r) v pk rk) :
    (∃ tk, v = .int n tk) ∧ pk = hdr n z ++ r.take z ∧ rk = r.drop z := by
  rcases h with ⟨h, _⟩ | ⟨k0, k1, k2, k3, rest, tk, e, rfl, _, rfl, rfl⟩
  · simp only [hdr, List.cons_append, List.length_cons] at h; omega
  · simp only [hdr, List.cons_append, List.nil_append, List.cons.injEq] at e
    obtain ⟨rfl, rfl, rfl, rfl, rfl⟩ := e
    have e : (4 + (Int.fmod (z : Int) 256 + 256 * Int.fdiv (z : Int) 256)).toNat = z + 4 := by rw [hdr_back]; omega
    refine ⟨⟨tk, by rw [hdr_back]⟩, ?_, ?_⟩
    · rw [e]; rfl
    · rw [e]; rfl
theorem out_T {u : T} {v : Value} {pk rk : List Int} (h : OneOut (enc u) v pk rk) (hw : WF u) (hn : enc u ≠ []) :
    (∃ bs, u = .leaf none bs ∧ v = .none ∧ pk = bs ∧ rk = [] ∧ bs ≠ []) ∨
    (∃ n tk z r, u = .leaf (some n) (hdr n z ++ r) ∧ v = .int n tk ∧ pk = hdr n z ++ r ∧ rk = [] ∧ r.length < z) ∨
    (∃ n k r tk, u = .fld n k r ∧ v = .int n tk ∧ pk = hdr n (enc k).length ++ enc k ∧ rk = enc r) := by
  cases u with
  | nil => exact absurd rfl hn
  | leaf i bs =>
    cases i with
    | none =>
      obtain ⟨e1, e2, e3⟩ := out_none h hw.1
      exact .inl ⟨bs, rfl, e1, e2, e3, hw.2⟩
    | some n =>
      obtain ⟨⟨_, _, z, r, hz, rfl, hrz⟩, _⟩ := hw
      obtain ⟨⟨tk, e1⟩, e2, e3⟩ := out_hdr h
      refine .inr (.inl ⟨n, tk, z, r, rfl, e1, ?_, ?_, hrz⟩)
      · rw [e2, List.take_of_length_le (Nat.le_of_lt hrz)]
      · rw [e3, List.drop_of_length_le (Nat.le_of_lt hrz)]
  | fld n k r =>
    obtain ⟨⟨tk, e1⟩, e2, e3⟩ := out_hdr h
    refine .inr (.inr ⟨n, k, r, tk, rfl, e1, ?_, ?_⟩)
    · rw [e2, List.take_left]
    · rw [e3, List.drop_left]
theorem ints_inj {b c : Array UInt8} (h : KBw.bInts b = KBw.bInts c) : b.toList = c.toList := by
  have : b.toList.map (fun x => (x.toNat : Int)) = c.toList.map (fun x => (x.toNat : Int)) := h
  refine List.map_inj_right (fun x y e => ?_) |>.mp this
  exact UInt8.toNat_inj.mp (by omega)
theorem ne_no {b c : Array UInt8} (h : KBw.bInts b = KBw.bInts c) (q : (b.toList != c.toList) = true) : False := by
  rw [ints_inj h] at q; simp at q
theorem eq_nil {b : Array UInt8} (h : KBw.bInts b ≠ []) : (b.toList == (#[] : Array UInt8).toList) = false := by
  cases q : (b.toList == (#[] : Array UInt8).toList) with
  | false => rfl
  | true =>
    have e := eq_of_beq q
    exact absurd (by show b.toList.map _ = []; rw [e]; rfl) h
theorem nil_of_ne {b : Array UInt8} (q : (b.toList != (#[] : Array UInt8).toList) = false) : KBw.bInts b = [] := by
  have e : b.toList = [] := by simpa using q
  show b.toList.map _ = []
  rw [e]; rfl
theorem ne_nil {b : Array UInt8} (q : (b.toList != (#[] : Array UInt8).toList) = true) : KBw.bInts b ≠ [] := by
  intro h
  have e : b.toList = [] := by simpa [KBw.bInts] using h
  rw [e] at q; simp at q
def LoopGo (I : Nat → Shared → Prop) (n : Nat) (f : Flow) (s : Shared) : Prop := f = .next ∧ ∃ n', n' < n ∧ I n' s
section
variable {prog : Program} {w : World} {A : Around} {E : Value → Shared → Prop} {Q : Flow → Shared → Prop} {s : Shared} {env : Env}
theorem While_any {test : Expr} {body : List Stmt} {pos : Pos} (I : Nat → Shared → Prop) {n₀ : Nat} (hI : I n₀ s)
    (turn : ∀ n s₁, I n s₁ → wpAny (model prog w) A (isTrue test env (eval test env)) (fun b s₂ =>
        if b = true then wpAny (model prog w) A (execs body env) (LoopGo I n) E s₂ else Q .next s₂) E s₁)
    (hE : PassesOwn (model prog w) A env E := by passes_own) :
    wpAny (model prog w) A (exec (.While test body [] pos) env) Q E s := by
  refine wpAny_While (codeAny_whileLoop I ?_ n₀ hI)
  intro n s' h'
  refine wpAny_mono (turn n s' h') (fun b s₂ h₂ => ?_) hE
  cases b with
  | false =>
    simp only [Bool.false_eq_true, if_false] at h₂ ⊢
    exact wpAny_execs_nil h₂
  | true =>
    simp only [if_true] at h₂ ⊢
    refine wpAny_mono h₂ (fun f s₃ h₃ => ?_) hE
    obtain ⟨rfl, h₃⟩ := h₃
    exact h₃
theorem For_any {target iter : Expr} {body : List Stmt} {pos : Pos} {it : Addr → Prop} (I : Addr → Nat → Shared → Prop)
    (head : wpAny (model prog w) A (eval iter env) (fun x s₁ => wpAny (model prog w) A (pyIter x) (fun it s₂ => ∃ i n, it = .ref i ∧ I i n s₂) E s₁) E s)
    (turn : ∀ i n s₁, I i n s₁ → wpAny (model prog w) A (pyNext (.ref i)) (fun r s₂ => match r with
        | none => Q .next s₂
        | some v => wpAny (model prog w) A (assign target env v) (fun _ s₃ => wpAny (model prog w) A (execs body env) (LoopGo (I i) n) E s₃) E s₂) E s₁)
    (ht : ∀ it v, letOwnedTupleGo target it v = pure () := by intros; rfl)
    (hs : ∀ x, foldedSetIterable iter env x = pure x := by intro _; rfl)
    (hE : PassesOwn (model prog w) A env E := by passes_own) :
    wpAny (model prog w) A (exec (.For target iter body [] pos) env) Q E s := by
  refine wpAny_For (wpAny_mono head (fun x s₁ h₁ => wpAny_mono h₁ (fun it s₂ h₂ => ?_) fun _ _ y => y) fun _ _ y => y) hs
  obtain ⟨i, n, rfl, hI⟩ := h₂
  refine codeAny_forLoop (fun n s => I i n s) ?_ n hI (ht _)
  intro n s' h'
  refine wpAny_mono (turn i n s' h') (fun r s₂ h₂ => ?_) hE
  cases r with
  | none => exact wpAny_execs_nil h₂
  | some v =>
    refine wpAny_mono h₂ (fun _ s₃ h₃ => wpAny_mono h₃ (fun f s₄ h₄ => ?_) hE) hE
    obtain ⟨rfl, h₄⟩ := h₄
    exact h₄
end
theorem Kept.lt {fs : List Addr} {lo : Addr} {h h' : Heap} (k : Kept fs h h') (hf : ∀ b ∈ fs, b < lo) {b : Addr} {o : Obj} (hb : lo ≤ b) (e : h.get? b = some o) : h'.get? b = some o :=
  k.other b o e fun m => absurd (hf b m) (Nat.not_lt.mpr hb)
/-- the told value of a piece that no field fills -/
def Leaf (ex : Bool) (G : Addr → Obj → Prop) (i : Option Int) (bs : List Int) (v lv : Value) : Prop :=
  IdVal i v ∧ match ex with
  | false => ∃ b t, lv = .bytes b t ∧ KBw.bInts b = bs
  | true => ∃ x dx b t, lv = .ref x ∧ G x (exObj dx b t) ∧ KBw.bInts b = bs
/-- the items of a told list -/
def Items (ex : Bool) (G : Addr → Obj → Prop) : T → List Value → Prop
  | .nil, vs => vs = []
  | .leaf i bs, vs => ∃ p v lv, vs = [.ref p] ∧ G p { cls := .type "tuple", data := .seq #[v, lv] } ∧ Leaf ex G i bs v lv
  | .fld n k r, vs => ∃ p q tk nn ks rs, vs = .ref p :: rs ∧ G p { cls := .type "tuple", data := .seq #[.int n tk, .ref q] } ∧
      G q (W.listOf (List.toArray ks) nn) ∧ Items ex G k ks ∧ Items ex G r rs
theorem Leaf.mono {ex : Bool} {G G' : Addr → Obj → Prop} {i : Option Int} {bs : List Int} {v lv : Value} (k : ∀ b o, G b o → G' b o) (x : Leaf ex G i bs v lv) : Leaf ex G' i bs v lv := by
  refine ⟨x.1, ?_⟩
  have x2 := x.2
  cases ex with
  | false => exact x2
  | true =>
    obtain ⟨x, dx, b, t, e1, e2, e6⟩ := x2
    exact ⟨x, dx, b, t, e1, k _ _ e2, e6⟩
theorem Items.mono {ex : Bool} {G G' : Addr → Obj → Prop} (k : ∀ b o, G b o → G' b o) : ∀ {t : T} {vs : List Value}, Items ex G t vs → Items ex G' t vs
  | .nil, _, x => x
  | .leaf _ _, _, ⟨p, v, lv, e1, e2, e3⟩ => ⟨p, v, lv, e1, k _ _ e2, e3.mono k⟩
  | .fld _ _ _, _, ⟨p, q, tk, nn, ks, rs, e1, e2, e3, e4, e5⟩ => ⟨p, q, tk, nn, ks, rs, e1, k _ _ e2, k _ _ e3, e4.mono k, e5.mono k⟩
theorem News.put2 {g h' : Heap} {L n a : Addr} {o : Obj} {m : Str → Option Value} {news : List (Addr × Obj)} (F : Fr g L h' m) (hL : L < n) (N : News g L h' news) (ha : n ≤ a) (ho : h'.get? a = some o) : News g L h' ((a, o) :: news) := fun p hp => by
  rcases List.mem_cons.mp hp with rfl | hp
  · exact ⟨ho, Nat.ne_of_gt (Nat.lt_of_lt_of_le hL ha), Heap.get?_none_of_le (Nat.le_trans F.above (Nat.le_of_lt (Nat.lt_of_lt_of_le hL ha)))⟩
  · exact N p hp
def Held (p : Prop) : Prop := p
theorem hold {p : Prop} (h : Held p) : p := h
theorem Held.go {p : Prop} (h : p) : Held p := h
/-- fields ahead of a list -/
def T.mk : List (Int × T) → T → T
  | [], e => e
  | (n, k) :: l, e => .fld n k (T.mk l e)
end Mine
end
section
open PySem PySem.W PyProof.Rows PySem.Calls PySem.Spec
set_option maxRecDepth 100000
namespace Mine
open Builtin
section
variable {M : Model} {A : Around} {E : Value → Shared → Prop} {s : Shared} {x dx : Addr} {b : Array UInt8} {t : Tok} {name : Str} {id : String} {args : List Value}
theorem special_ex {M : Model} {h : Heap} {r : Option Value} (L : Looks M h (typeLookup (.ref 108) name) r) (hx : h.get? x = some (exObj dx b t)) : Looks M h (specialOf (.ref x) name) r :=
  (looks_typeX hx).andThen L
theorem sp_ex {Q : Option Value → Shared → Prop} (S : Slot "bytes" name id) (L : Looks M s.heap (typeLookup (.ref 108) name) (some (.builtin id))) (hx : s.heap.get? x = some (exObj dx b t))
    (hc : wpAny M A (call (.builtin id) (.ref x :: args)) (fun v => Q (some v)) E s) : wpAny M A (callSpecial? (.ref x) name args) Q E s := by
  simp only [callSpecial?]
  refine wpAny_bind ((special_ex L hx).here ?_)
  simp only [S.bind]
  exact wpAny_holding (wpAny_bind (wpAny_pure (wpAny_bind (wpAny_mono hc (fun v s' h' => wpAny_pure h') fun _ _ h' => h'))))
theorem spb_ex {Q : Option Value → Shared → Prop} (S : Slot "bytes" name id) (L : Looks M s.heap (typeLookup (.ref 108) name) (some (.builtin id))) (hx : s.heap.get? x = some (exObj dx b t))
    (hc : wpAny M A (call (.builtin id) (.ref x :: args)) (fun v => Q (some v)) E s) : wpAny M A (callSpecialIfBound? (.ref x) name args) Q E s := by
  simp only [callSpecialIfBound?, bindSpecialIfBound?]
  refine wpAny_holding (wpAny_bind (wpAny_bind ((special_ex L hx).here ?_)))
  simp only [S.bind]
  refine wpAny_bind (wpAny_askSetting (wpAny_ite ?_))
  have fin : wpAny M A (call (.builtin id) ([.ref x] ++ args) >>= fun v => pure (some v)) Q E s :=
    wpAny_bind (wpAny_mono hc (fun v s' h' => wpAny_pure h') fun _ _ h' => h')
  split
  · exact wpAny_bind (wpAny_pure (wpAny_pure fin))
  · exact wpAny_tryCatch (wpAny_bind (wpAny_pure (wpAny_pure fin)))
theorem payload_ex {M : Model} {h : Heap} (hx : h.get? x = some (exObj dx b t)) : Looks M h (Bytes.payload (.ref x)) b := by
  intro A Q E s k q
  have hx' := k _ _ hx
  unfold Bytes.payload Bytes.payload?
  repeat lk
  exact q
theorem kind_eq : builtinKind "bytes.__eq__" = some .slot := by decide +kernel
theorem kind_ne : builtinKind "bytes.__ne__" = some .slot := by decide +kernel
theorem kind_add : builtinKind "bytes.__add__" = some .slot := by decide +kernel
theorem kind_len' : builtinKind "bytes.__len__" = some .slot := by decide +kernel
theorem kind_gi : builtinKind "bytes.__getitem__" = some .slot := by decide +kernel
theorem split_eq : splitId "bytes.__eq__" = some ("bytes", "__eq__") := by decide +kernel
theorem split_ne : splitId "bytes.__ne__" = some ("bytes", "__ne__") := by decide +kernel
theorem split_add : splitId "bytes.__add__" = some ("bytes", "__add__") := by decide +kernel
theorem split_len : splitId "bytes.__len__" = some ("bytes", "__len__") := by decide +kernel
theorem split_gi : splitId "bytes.__getitem__" = some ("bytes", "__getitem__") := by decide +kernel
end
section
variable {prog : Program} {w : World} {A : Around} {E : Value → Shared → Prop} {s : Shared} {x dx : Addr} {b c : Array UInt8} {t u : Tok}
theorem slot_ex {id : String} {name : Str} {n : String} {bfn : Builtin} {rest : List Value} {Q : Value → Shared → Prop} (S : Slot "bytes" name id) (hk : builtinKind id = some .slot) (hs : splitId id = some ("bytes", n)) (he : entryFor table id = some bfn)
    (ha : argsOk id ⟨.ref x :: rest, []⟩) (hD : s.heap.get? 108 = some oE) (hx : s.heap.get? x = some (exObj dx b t))
    (hc : wpAny (model prog w) A.in1 (bfn ⟨.ref x :: rest, []⟩) (fun fin s' => ∃ v, fin = .done (.ret v) ∧ Q v s') E s) : wpAny (model prog w) A (call (.builtin id) (.ref x :: rest)) Q E s := by
  refine wpAny_call (codeAny_call_builtin S.plain he (check_slot hk hs ((looks_typeX hx).andThen (looks_subB hD)) ha (wpAny_mono hc (fun fin s' h' => ?_) fun _ _ h' => h')))
  obtain ⟨v, rfl, hv⟩ := h'
  exact hv
theorem eq_entry {A : Around} {Q : Fin → Shared → Prop} (hx : s.heap.get? x = some (exObj dx b t)) (hq : Q (.done (.ret (.bool (b.toList == c.toList)))) s) :
    wpAny (model prog w) A («bytes.__eq__» ⟨[.ref x, .bytes c u], []⟩) Q E s := by
  show wpAny _ A (isInstance (.bytes c u) (.type "bytes") >>= fun r => _) _ E s
  refine wpAny_bind (wpAny_isInstance (typeIs_bytes s c u) PySem.F.sub_bytes_bytes ?_)
  show wpAny _ A (Bytes.payload (.ref x) >>= fun r => _) _ E s
  refine wpAny_bind ((payload_ex hx).here ?_)
  rw [← order_eq] at hq
  exact wpAny_pure hq
theorem ne_entry {A : Around} {Q : Fin → Shared → Prop} (hx : s.heap.get? x = some (exObj dx b t)) (hq : Q (.done (.ret (.bool (b.toList != c.toList)))) s) :
    wpAny (model prog w) A («bytes.__ne__» ⟨[.ref x, .bytes c u], []⟩) Q E s := by
  show wpAny _ A (isInstance (.bytes c u) (.type "bytes") >>= fun r => _) _ E s
  refine wpAny_bind (wpAny_isInstance (typeIs_bytes s c u) PySem.F.sub_bytes_bytes ?_)
  show wpAny _ A (Bytes.payload (.ref x) >>= fun r => _) _ E s
  refine wpAny_bind ((payload_ex hx).here ?_)
  rw [bne, ← order_eq] at hq
  exact wpAny_pure hq
theorem sub_bytes_ref : isSubtype (.type "bytes") (.ref 108) = pure false := by rw [isSubtype_type]; kernel_rfl
theorem rc_eq_ex {Q : Value → Shared → Prop} (hD : s.heap.get? 108 = some oE) (hx : s.heap.get? x = some (exObj dx b t)) (L : Looks (model prog w) s.heap (typeLookup (.ref 108) "__eq__") (some (.builtin "bytes.__eq__"))) (hu : A.units < cLine)
    (hq : Q (.bool (b.toList == c.toList)) s) : wpAny (model prog w) A (richCompare .Eq (.ref x) (.bytes c u)) Q E s := by
  unfold richCompare
  refine wpAny_holding (wpAny_bind (wpAny_cRoomFor hu ?_))
  show wpAny _ _ (typeOf (.ref x) >>= fun _ => _) _ _ _
  refine wpAny_bind ((looks_typeX hx).here ?_)
  refine wpAny_bind (wpAny_typeOf (typeIs_bytes s c u) ?_)
  rw [if_pos (by decide)]
  refine wpAny_bind (wpAny_of_eq sub_bytes_ref ?_)
  refine wpAny_bind ?_
  unfold tryCompare
  refine wpAny_bind (spb_ex FB.slot_bytes_eq L hx (slot_ex FB.slot_bytes_eq kind_eq split_eq FB.entry_bytes_eq (FB.args_bytes_eq_2 _ _) hD hx (eq_entry hx ⟨_, rfl, ?_⟩)))
  exact wpAny_pure (wpAny_pure hq)
theorem rc_ne_ex {Q : Value → Shared → Prop} (hD : s.heap.get? 108 = some oE) (hx : s.heap.get? x = some (exObj dx b t)) (L : Looks (model prog w) s.heap (typeLookup (.ref 108) "__ne__") (some (.builtin "bytes.__ne__"))) (hu : A.units < cLine)
    (hq : Q (.bool (b.toList != c.toList)) s) : wpAny (model prog w) A (richCompare .NotEq (.ref x) (.bytes c u)) Q E s := by
  unfold richCompare
  refine wpAny_holding (wpAny_bind (wpAny_cRoomFor hu ?_))
  show wpAny _ _ (typeOf (.ref x) >>= fun _ => _) _ _ _
  refine wpAny_bind ((looks_typeX hx).here ?_)
  refine wpAny_bind (wpAny_typeOf (typeIs_bytes s c u) ?_)
  rw [if_pos (by decide)]
  refine wpAny_bind (wpAny_of_eq sub_bytes_ref ?_)
  refine wpAny_bind ?_
  unfold tryCompare
  refine wpAny_bind (spb_ex FB.slot_bytes_ne L hx (slot_ex FB.slot_bytes_ne kind_ne split_ne FB.entry_bytes_ne (FB.args_bytes_ne_2 _ _) hD hx (ne_entry hx ⟨_, rfl, ?_⟩)))
  exact wpAny_pure (wpAny_pure hq)
theorem isi_ex {Q : Value → Shared → Prop} (hx : s.heap.get? x = some (exObj dx b t)) (hq : Q (.bool true) s) : wpAny (model prog w) A (call (.builtin "isinstance") [.ref x, .ref 108]) Q E s := by
  refine call_isinstance_of ?_ (by intro e; cases e)
  unfold Builtin.«isinstance.nested»
  refine wpAny_bind ((looks_typeX hx).here ?_)
  rw [if_pos (by decide)]
  exact wpAny_bind (wpAny_rule (wpAny_pure hq))
theorem len_ex {Q : Value → Shared → Prop} (hD : s.heap.get? 108 = some oE) (hx : s.heap.get? x = some (exObj dx b t)) (L : Looks (model prog w) s.heap (typeLookup (.ref 108) "__len__") (some (.builtin "bytes.__len__"))) (hz : b.size ≤ 1099511627776)
    (hq : ∀ tk k, Q (.int b.size tk) { s with toks := k }) : wpAny (model prog w) A (call (.builtin "len") [.ref x]) Q E s := by
  refine Calls.call_function_entry kind_len plain_len entry_len (args_len1 _) ?_
  unfold Builtin.«len»
  refine wpAny_bind (m := oneArg "len" _) (wpAny_pure ?_)
  refine wpAny_bind (m := callSpecial? (.ref x) (Str.ofString "__len__")) (sp_ex FB.slot_bytes_len L hx (slot_ex FB.slot_bytes_len kind_len' split_len FB.entry_bytes_len (FB.args_bytes_len_1 _) hD hx ?_))
  show wpAny _ _ (Bytes.payload (.ref x) >>= fun r => _) _ _ _
  refine wpAny_bind ((payload_ex hx).here ?_)
  refine wpAny_bind (wpAny_mkInt (wpAny_pure ⟨_, rfl, ?_⟩))
  show wpAny _ _ _ _ _ { s with toks := s.toks + 1 }
  refine wpAny_bind (wpAny_holding (wpAny_pure ?_))
  refine wpAny_bind (wpAny_letGo ?_)
  show wpAny _ _ (if ((b.size : Nat) : Int) < 0 then _ else _) _ _ _
  rw [if_neg (by omega)]
  show wpAny _ _ (if ((b.size : Nat) : Int) ≥ 2 ^ 63 then _ else _) _ _ _
  rw [if_neg (by omega)]
  exact wpAny_bind (wpAny_mkInt (wpAny_pure ⟨_, rfl, hq _ _⟩))
theorem looks_notDeque {M : Model} {h : Heap} (hD : h.get? 108 = some oE) : Looks M h (isSubtype (.ref 108) (.type "collections.deque")) false := by
  intro A Q E s k q
  have hD' := k _ _ hD
  unfold isSubtype
  repeat lk
  exact q
theorem getItem_ex {i : Value} {Q : Value → Shared → Prop} (hD : s.heap.get? 108 = some oE) (hx : s.heap.get? x = some (exObj dx b t)) (L : Looks (model prog w) s.heap (typeLookup (.ref 108) "__getitem__") (some (.builtin "bytes.__getitem__")))
    (hc : wpAny (model prog w) A.in1 («bytes.__getitem__» ⟨[.ref x, i], []⟩) (fun fin s' => ∃ v, fin = .done (.ret v) ∧ Q v s') E s) : wpAny (model prog w) A (getItem (.ref x) i) Q E s := by
  unfold getItem
  refine wpAny_holding (wpAny_bind ?_)
  unfold sequenceKey
  refine wpAny_bind ((looks_typeX hx).here ?_)
  refine wpAny_bind ?_
  show wpAny _ _ (seqItemTypes.anyM fun n => isSubtype (.ref 108) (.type n)) _ _ _
  refine wpAny_bind ((looks_notDeque hD).here ?_)
  refine wpAny_pure (wpAny_pure ?_)
  exact wpAny_bind (sp_ex FB.slot_bytes_getitem L hx (wpAny_mono (slot_ex FB.slot_bytes_getitem kind_gi split_gi FB.entry_bytes_getitem (FB.args_bytes_getitem_2 _ _) hD hx hc) (fun v s' h' => wpAny_pure h') fun _ _ e => e))
theorem gi_int {A : Around} {i : Int} {ui : Tok} {Q : Fin → Shared → Prop} (hx : s.heap.get? x = some (exObj dx b t)) (h0 : 0 ≤ i) (h1 : i < b.size) (hz : b.size ≤ 1099511627776)
    (hq : ∀ tk k, Q (.done (.ret (.int ((KBw.bInts b).getD i.toNat 0) tk))) { s with toks := k }) : wpAny (model prog w) A («bytes.__getitem__» ⟨[.ref x, .int i ui], []⟩) Q E s := by
  show wpAny _ A (Bytes.payload (.ref x) >>= fun r => _) _ E s
  refine wpAny_bind ((payload_ex hx).here ?_)
  show wpAny _ A (Bytes.subscript? (.int i ui) >>= fun r => _) _ E s
  refine wpAny_bind ?_
  unfold Bytes.subscript?
  refine wpAny_bind (wpAny_specialOf (typeIs_int s i ui) PySem.F.slot_int_index.lookup ?_)
  show wpAny _ A (if (!Bytes.fitsIndex i) = true then _ else pure (some i)) _ E s
  rw [show Bytes.fitsIndex i = true by simp only [Bytes.fitsIndex, Bool.and_eq_true, decide_eq_true_eq]; omega]
  refine wpAny_pure ?_
  have e : (seqIndex? i b.size).bind (b[·]?) = some (b.toList.getD i.toNat 0) := by
    have hl : i.toNat < b.size := by omega
    have : seqIndex? i b.size = some i.toNat := by simp [seqIndex?, h0, h1, Int.not_lt.mpr h0]
    rw [this]; simp [hl]
  show wpAny _ A (match (seqIndex? i b.size).bind (b[·]?) with | some x => retInt x.toNat | none => _) _ E s
  rw [e]
  refine wpAny_bind (wpAny_mkInt (wpAny_pure ?_))
  rw [KBw.getD_ints]
  exact hq _ _
end
end Mine
end
section
open PySem PySem.W PyProof.Rows PySem.Calls PySem.Spec
set_option maxRecDepth 100000
namespace Mine
open Builtin
theorem obj_noAdd : typeLookup (.type "object") (dunder "add") = pure none := by rw [typeLookup_type, builtinLookup_eq_fast]; kernel_rfl
theorem obj_noRadd : typeLookup (.type "object") (dunderR "add") = pure none := by rw [typeLookup_type, builtinLookup_eq_fast]; kernel_rfl
theorem looks_inh {M : Model} {h : Heap} (hD : h.get? 108 = some oE) : Looks M h (inheritsSeqSlot (.ref 108) (dunder "add")) true := by
  intro A Q E s k q
  have LM := (looks_mroE (M := M) hD).keeps k
  unfold inheritsSeqSlot
  refine wpAny_bind (LM.here ?_)
  simp only [List.anyM]
  refine wpAny_bind (wpAny_pure ?_)
  refine wpAny_bind (wpAny_bind (wpAny_of_eq FB.slot_bytes_add.lookup ?_))
  exact wpAny_pure (wpAny_pure q)
theorem looks_fill {M : Model} {h : Heap} (hD : h.get? 108 = some oE) (LA : Looks M h (typeLookup (.ref 108) (dunder "add")) (some (.builtin "bytes.__add__"))) (LR : Looks M h (typeLookup (.ref 108) (dunderR "add")) none) :
    Looks M h (fillsNumberSlot (.ref 108) "add") false := by
  intro A Q E s k q
  have LM := (looks_mroE (M := M) hD).keeps k
  have LI := (looks_inh (M := M) hD).keeps k
  have LA := LA.keeps k
  have LR := LR.keeps k
  unfold fillsNumberSlot
  dsimp only
  refine wpAny_bind (LM.here ?_)
  simp only [List.anyM]
  refine wpAny_bind (wpAny_bind (wpAny_bind (LA.here ?_)))
  refine bm_if_false (by decide +kernel) ?_
  refine wpAny_bind (LI.here (wpAny_pure ?_))
  refine wpAny_bind (wpAny_bind (LR.here (wpAny_pure (wpAny_pure ?_))))
  refine wpAny_bind (wpAny_bind (wpAny_of_eq FB.slot_bytes_add.lookup ?_))
  refine wpAny_bind (wpAny_of_eq KBy.noR_bytes_add (wpAny_pure ?_))
  refine wpAny_bind (wpAny_bind (wpAny_of_eq obj_noAdd ?_))
  refine wpAny_bind (wpAny_of_eq obj_noRadd (wpAny_pure ?_))
  exact wpAny_pure q
theorem looks_seq {M : Model} {h : Heap} (hD : h.get? 108 = some oE) (LA : Looks M h (typeLookup (.ref 108) "__add__") (some (.builtin "bytes.__add__"))) :
    Looks M h (seqSlot? (.ref 108) "__add__") (some (.builtin "bytes.__add__")) := by
  intro A Q E s k q
  have LA := LA.keeps k
  have LS := (looks_subB (M := M) hD).keeps k
  unfold seqSlot?
  refine wpAny_bind (LA.here ?_)
  refine bm_if_false (by decide +kernel) ?_
  dsimp only
  rw [split_add]
  dsimp only
  refine bm_if_false (by decide +kernel) ?_
  refine wpAny_bind (LS.here ?_)
  exact wpAny_pure q
theorem looks_ownB {M : Model} {h : Heap} {x dx : Addr} {b : Array UInt8} {t : Tok} (hD : h.get? 108 = some oE) (hx : h.get? x = some (exObj dx b t)) (LB : Looks M h (typeLookup (.ref 108) "__buffer__") (some (.builtin "bytes.__buffer__"))) :
    Looks M h (Bytes.slotIsOwn (.ref x) "__buffer__") true := by
  intro A Q E s k q
  have LB := (special_ex LB hx).keeps k
  have LI : Looks M s.heap (isInstance (.ref x) (.type "bytes")) true := ((looks_typeX (M := M) hx).andThen (looks_subB hD)).keeps k
  unfold Bytes.slotIsOwn
  refine wpAny_bind (LB.here ?_)
  have e : ("bytes.__buffer__".dropRight ("__buffer__".length + 1)) = "bytes" := by decide +kernel
  refine bm_if_false (by decide +kernel) ?_
  rw [e]
  exact LI.here q
theorem looks_buf {M : Model} {h : Heap} {x dx : Addr} {b : Array UInt8} {t : Tok} {id : String} (hD : h.get? 108 = some oE) (hx : h.get? x = some (exObj dx b t)) (LB : Looks M h (typeLookup (.ref 108) "__buffer__") (some (.builtin "bytes.__buffer__")))
    (LR : Looks M h (typeLookup (.ref 108) "__release_buffer__") none) : Looks M h (Bytes.buffer? id (.ref x)) (some b) := by
  intro A Q E s k q
  have L0 := (looks_ownB hD hx LB).keeps k
  have L1 := (special_ex LB hx).keeps k
  have L2 := (own_rel LR hx).keeps k
  have L3 := (payload_ex (M := M) hx).keeps k
  unfold Bytes.buffer?
  refine wpAny_bind (L1.here ?_)
  refine wpAny_bind (L0.here ?_)
  refine bm_if_false rfl ?_
  refine wpAny_bind (L1.here ?_)
  dsimp only
  refine wpAny_bind (L2.here ?_)
  refine bm_if_false rfl ?_
  exact wpAny_bind (L3.here (wpAny_pure q))
section
variable {prog : Program} {w : World} {A : Around} {E : Value → Shared → Prop} {s : Shared} {x dx : Addr} {b c : Array UInt8} {t u : Tok}
theorem add_entry {A : Around} {Q : Fin → Shared → Prop} (hx : s.heap.get? x = some (exObj dx b t)) (L : Looks (model prog w) s.heap (Bytes.buffer? "bytes.__add__" (.ref x)) (some b)) (hl : Bytes.tooLong (b.size + c.size) = false) (hz : (b ++ c).size ≤ sizeLine)
    (hq : ∀ d tk k, KBw.bInts d = KBw.bInts b ++ KBw.bInts c → Q (.done (.ret (.bytes d tk))) { s with toks := k }) :
    wpAny (model prog w) A («bytes.__add__» ⟨[.ref x, .bytes c u], []⟩) Q E s := by
  show wpAny _ A (Bytes.buffer? "bytes.__add__" (.ref x) >>= fun r => _) _ E s
  refine wpAny_bind (L.here ?_)
  show wpAny _ A (Bytes.bufferQuiet? "bytes.__add__" (.bytes c u) >>= fun r => _) _ E s
  refine wpAny_bind (wpAny_of_eq KBy.quiet_eq ?_)
  have hbc : KBw.bInts (b ++ c) = KBw.bInts b ++ KBw.bInts c := by simp [KBw.bInts]
  show wpAny _ A (if b.isEmpty = true then _ else _) _ E s
  by_cases hb : b.isEmpty = true
  · rw [if_pos hb]
    refine wpAny_bind (wpAny_typeOf (typeIs_bytes s c u) ?_)
    refine wpAny_bind (wpAny_rule (wpAny_pure (hq c u _ ?_)))
    have : b = #[] := by simpa using hb
    rw [this]; rfl
  · rw [if_neg hb]
    show wpAny _ A (if c.isEmpty = true then _ else _) _ E s
    have fin : wpAny (model prog w) A (if Bytes.tooLong (b.size + c.size) = true then unsupported "bytes.__add__:memory" else do ret (← mkBytes (b ++ c))) Q E s := by
      rw [if_neg (by rw [hl]; decide)]
      exact wpAny_bind (wpAny_mkBytes (wpAny_pure (hq _ _ _ hbc)) hz)
    by_cases hc : c.isEmpty = true
    · rw [if_pos hc]
      refine wpAny_bind ((looks_typeX hx).here ?_)
      exact fin
    · rw [if_neg hc]
      exact fin
theorem add_ex {Q : Value → Shared → Prop} (hD : s.heap.get? 108 = some oE) (hx : s.heap.get? x = some (exObj dx b t)) (LA : Looks (model prog w) s.heap (typeLookup (.ref 108) "__add__") (some (.builtin "bytes.__add__")))
    (LA' : Looks (model prog w) s.heap (typeLookup (.ref 108) (dunderR "add")) none) (LB : Looks (model prog w) s.heap (typeLookup (.ref 108) "__buffer__") (some (.builtin "bytes.__buffer__"))) (LR : Looks (model prog w) s.heap (typeLookup (.ref 108) "__release_buffer__") none)
    (hz : b.size + c.size ≤ 16777216)
    (hq : ∀ d tk k, KBw.bInts d = KBw.bInts b ++ KBw.bInts c → Q (.bytes d tk) { s with toks := k }) : wpAny (model prog w) A (binaryOp .Add (.ref x) (.bytes c u)) Q E s := by
  have LT := looks_typeX (M := model prog w) hx
  have LF := looks_fill (M := model prog w) hD LA LA'
  have LS := looks_seq (M := model prog w) hD LA
  unfold binaryOp
  refine wpAny_holding ?_
  show wpAny _ _ (binaryOp1 "add" (.ref x) (.bytes c u) >>= fun r => _) _ _ _
  refine wpAny_bind ?_
  unfold binaryOp1
  refine wpAny_bind (LT.here ?_)
  refine wpAny_bind (wpAny_typeOf (typeIs_bytes s c u) ?_)
  refine wpAny_bind (LF.here ?_)
  refine bm_if_false (by decide) ?_
  refine wpAny_bind (wpAny_of_eq KBy.noFill_bytes_add ?_)
  refine wpAny_pure ?_
  refine wpAny_bind (LT.here (wpAny_bind (LS.here ?_)))
  refine wpAny_bind (wpAny_rule ?_)
  refine slot_ex FB.slot_bytes_add kind_add split_add FB.entry_bytes_add (FB.args_bytes_add_2 _ _) hD hx (add_entry hx (looks_buf hD hx LB LR) (KBy.tooLong_not hz) ?_ (fun d tk k e => ⟨_, rfl, hq d tk k e⟩))
  rw [Array.size_append, sizeLine_eq]; omega
theorem tail_ex {value slice : Expr} {i : Value} {Q : Value → Shared → Prop} (hx : s.heap.get? x = some (exObj dx b t)) (L : Looks (model prog w) s.heap (typeLookup (.ref 108) "__getitem__") (some (.builtin "bytes.__getitem__")))
    (h : wpAny (model prog w) A (getItem (.ref x) i) Q E s)
    (hs : subscripted slice false (.ref x) i = operate [.ref x, i] (getItem (.ref x) i) := by with_unfolding_all rfl) (ht : ∀ r, letTemporaryGo value (.ref x) r = pure () := by intro _; with_unfolding_all rfl) :
    wpAny (model prog w) A (subscriptTail value slice (.ref x) i) Q E s := by
  unfold subscriptTail getitemInPython
  refine wpAny_bind (wpAny_bind ((special_ex L hx).here (wpAny_pure ?_)))
  refine wpAny_bind ?_
  rw [hs]
  exact wpAny_operating (wpAny_mono h (fun r s₃ h₃ => wpAny_bind (wpAny_of_eq (ht r) (wpAny_pure h₃))) fun _ _ x => x)
theorem tailS_ex {value slice : Expr} {i : Value} {Q : Value → Shared → Prop} (hx : s.heap.get? x = some (exObj dx b t)) (L : Looks (model prog w) s.heap (typeLookup (.ref 108) "__getitem__") (some (.builtin "bytes.__getitem__")))
    (h : wpAny (model prog w) A (getItem (.ref x) i) Q E s)
    (hs : subscripted slice false (.ref x) i = operate [i, .ref x] (getItem (.ref x) i) := by with_unfolding_all rfl) (ht : ∀ r, letTemporaryGo value (.ref x) r = pure () := by intro _; with_unfolding_all rfl) :
    wpAny (model prog w) A (subscriptTail value slice (.ref x) i) Q E s := by
  unfold subscriptTail getitemInPython
  refine wpAny_bind (wpAny_bind ((special_ex L hx).here (wpAny_pure ?_)))
  refine wpAny_bind ?_
  rw [hs]
  exact wpAny_operating (wpAny_mono h (fun r s₃ h₃ => wpAny_bind (wpAny_of_eq (ht r) (wpAny_pure h₃))) fun _ _ x => x)
theorem gi_slice {A : Around} {a : Addr} {v : Int} {tv : Tok} {Q : Fin → Shared → Prop} (hx : s.heap.get? x = some (exObj dx b t)) (hS : s.heap.IsSliceOf a (.int v tv) .none .none) (hz : b.size ≤ sizeLine)
    (hq : ∀ tk k, Q (.done (.ret (.bytes (KBy.picked b (some v) none) tk))) { s with toks := k }) : wpAny (model prog w) A («bytes.__getitem__» ⟨[.ref x, .ref a], []⟩) Q E s := by
  obtain ⟨o, ho, hc, hd⟩ := hS
  have hT : s.TypeIs (.ref a) "slice" := ⟨o, ho, hc⟩
  show wpAny _ A (Bytes.payload (.ref x) >>= fun r => _) _ E s
  refine wpAny_bind ((payload_ex hx).here ?_)
  show wpAny _ A (Bytes.subscript? (.ref a) >>= fun r => _) _ E s
  refine wpAny_bind ?_
  unfold Bytes.subscript?
  refine wpAny_bind (wpAny_specialOf hT PySem.slice_no_index (wpAny_pure ?_))
  refine wpAny_bind (wpAny_typeOf hT ?_)
  show wpAny _ _ (Bytes.sliceParts (.ref a) >>= fun r => _) _ _ s
  refine wpAny_bind ?_
  unfold Bytes.sliceParts
  refine wpAny_bind (wpAny_field (x := .none) ho hd rfl ?_)
  kby_none
  refine wpAny_ite (KBy.ite_no (show ¬ ((Value.none == rawInt 0) = true) from Bool.false_ne_true) ?_)
  refine wpAny_bind (wpAny_field (x := .int v tv) ho hd rfl ?_)
  have go : wpAny (model prog w) A (sliceIndices (rawPart (some v)) (rawPart none) (rawPart none) b.size) (fun r s' => r = sliceBounds (some v) none none b.size ∧ s' = s) (fun _ _ => False) s :=
    wpAny_of_eq (sliceIndices_raw (some v) none none b.size (fun e => nomatch e)) ⟨rfl, rfl⟩
  kby_int
  (refine wpAny_bind (wpAny_field (x := .none) ho hd rfl ?_))
  kby_none
  refine wpAny_pure ?_
  refine wpAny_bind (wpAny_mono go (fun r s' hr => ?_) fun _ _ e => e.elim)
  obtain ⟨rfl, rfl⟩ := hr
  have hz' : (KBy.picked b (some v) none).size ≤ sizeLine := Nat.le_trans (KBc.size_picked_le b _ _) hz
  have fin : wpAny (model prog w) A (do ret (← mkBytes (KBy.picked b (some v) none))) Q E s' := wpAny_bind (wpAny_mkBytes (wpAny_pure (hq _ _)) hz')
  have hcase : KBy.whole b (some v) none = false ∨ KBy.whole b (some v) none = true := by
    cases KBy.whole b (some v) none
    · exact .inl rfl
    · exact .inr rfl
  rcases hcase with hw | hw
  · exact wpAny_ite (KBy.ite_no (ne_true_of_eq_false hw) fin)
  · refine wpAny_ite (KBc.ite_yes hw ?_)
    refine wpAny_bind ((looks_typeX hx).here ?_)
    exact wpAny_ite (KBy.ite_no (by decide) fin)
end
end Mine
end
section
open PySem PySem.W PyProof.Rows PySem.Calls PySem.Spec
set_option maxRecDepth 100000
namespace Mine
open Builtin
section
variable {prog : Program} {w : World} {A : Around} {E : Value → Shared → Prop} {s : Shared} {x dx : Addr} {b c : Array UInt8} {t u : Tok}
theorem cmp_eq_ex {r : Bool} {Q : Value → Shared → Prop} (hD : s.heap.get? 108 = some oE) (hx : s.heap.get? x = some (exObj dx b t)) (L : Looks (model prog w) s.heap (typeLookup (.ref 108) "__eq__") (some (.builtin "bytes.__eq__"))) (hu : A.units < cLine)
    (hr : (b.toList == c.toList) = r) (hq : Q (.bool r) s) : wpAny (model prog w) A (compareOp .Eq (.ref x) (.bytes c u)) Q E s :=
  cmp_ofEq (rc_eq_ex hD hx L hu (hr ▸ hq))
theorem cmp_ne_ex {r : Bool} {Q : Value → Shared → Prop} (hD : s.heap.get? 108 = some oE) (hx : s.heap.get? x = some (exObj dx b t)) (L : Looks (model prog w) s.heap (typeLookup (.ref 108) "__ne__") (some (.builtin "bytes.__ne__"))) (hu : A.units < cLine)
    (hr : (b.toList != c.toList) = r) (hq : Q (.bool r) s) : wpAny (model prog w) A (compareOp .NotEq (.ref x) (.bytes c u)) Q E s :=
  cmp_ofNotEq (rc_ne_ex hD hx L hu (hr ▸ hq))
theorem item_ex {value slice : Expr} {i : Int} {ui : Tok} {Q : Value → Shared → Prop} (hD : s.heap.get? 108 = some oE) (hx : s.heap.get? x = some (exObj dx b t)) (L : Looks (model prog w) s.heap (typeLookup (.ref 108) "__getitem__") (some (.builtin "bytes.__getitem__")))
    (h0 : 0 ≤ i) (h1 : i < b.size) (hz : b.size ≤ 1099511627776) (h : ∀ tk k, Q (.int ((KBw.bInts b).getD i.toNat 0) tk) { s with toks := k })
    (hs : subscripted slice false (.ref x) (.int i ui) = operate [.ref x, .int i ui] (getItem (.ref x) (.int i ui)) := by with_unfolding_all rfl) (ht : ∀ r, letTemporaryGo value (.ref x) r = pure () := by intro _; with_unfolding_all rfl) :
    wpAny (model prog w) A (subscriptTail value slice (.ref x) (.int i ui)) Q E s :=
  tail_ex hx L (getItem_ex hD hx L (gi_int hx h0 h1 hz fun tk k => ⟨_, rfl, h tk k⟩)) hs ht
theorem slice_ex {h₀ : Heap} {L : Addr} {m : Str → Option Value} {news : List (Addr × Obj)} {value slice : Expr} {v : Int} {tv : Tok} {Q : Value → Shared → Prop} (hF : Fr h₀ L s.heap m) (hN : News h₀ L s.heap news)
    (hD : s.heap.get? 108 = some oE) (hx : s.heap.get? x = some (exObj dx b t)) (Lk : Looks (model prog w) s.heap (typeLookup (.ref 108) "__getitem__") (some (.builtin "bytes.__getitem__"))) (hz : b.size ≤ 1000000) (h0 : 0 ≤ v)
    (h : ∀ h' d tk k, Fr h₀ L h' m → News h₀ L h' news → s.heap.objs.size ≤ h'.objs.size → KBw.bInts d = (KBw.bInts b).drop v.toNat → Q (.bytes d tk) { s with heap := h', toks := k })
    (hs : subscripted slice false (.ref x) (.ref s.heap.objs.size) = operate [.ref s.heap.objs.size, .ref x] (getItem (.ref x) (.ref s.heap.objs.size)) := by with_unfolding_all rfl)
    (ht : ∀ r, letTemporaryGo value (.ref x) r = pure () := by intro _; with_unfolding_all rfl) :
    wpAny (model prog w) A (subscriptTail value slice (.ref x) (.ref s.heap.objs.size)) Q E { s with heap := s.heap.push { cls := .type "slice", data := .fields #[.int v tv, .none, .none] } } := by
  have up : ∀ y o, s.heap.get? y = some o → (s.heap.push { cls := .type "slice", data := .fields #[.int v tv, .none, .none] }).get? y = some o := fun y o e => Heap.get?_push_of_some _ e
  have Lk' := Lk.keeps up
  refine tailS_ex (up _ _ hx) Lk' (getItem_ex (up _ _ hD) (up _ _ hx) Lk' (gi_slice (up _ _ hx) (Heap.IsSliceOf.new _ _ _ _) (by rw [sizeLine_eq]; omega) fun tk k => ⟨_, rfl, ?_⟩)) hs ht
  refine h _ _ _ _ (hF.push _) (News.pushKeep hN _) (by rw [Heap.size_push]; omega) ?_
  rw [KBc.ints_picked rfl]
  exact drop_clip h0
end
theorem News.puts {g h' : Heap} {L n : Nat} {m : Str → Option Value} {news done : List (Addr × Obj)} (F : Fr g L h' m) (hL : L < n) (N : News g L h' news) (hd : ∀ q ∈ done, n ≤ q.1 ∧ h'.get? q.1 = some q.2) : News g L h' (done ++ news) := fun p hp => by
  rcases List.mem_append.mp hp with hp | hp
  · exact ⟨(hd p hp).2, Nat.ne_of_gt (Nat.lt_of_lt_of_le hL (hd p hp).1), Heap.get?_none_of_le (Nat.le_trans F.above (Nat.le_of_lt (Nat.lt_of_lt_of_le hL (hd p hp).1)))⟩
  · exact N p hp
theorem News.sub {g h' : Heap} {L : Addr} {news news' : List (Addr × Obj)} (N : News g L h' news) (h : ∀ p ∈ news', p ∈ news) : News g L h' news' := fun p hp => N p (h p hp)
end Mine
end
section
open PySem PySem.W PyProof.Rows PySem.Calls PySem.Spec
set_option maxRecDepth 100000
namespace Mine
open Builtin
theorem kind_ga : builtinKind "bytes.__getattribute__" = some .slot := by decide +kernel
theorem split_ga : splitId "bytes.__getattribute__" = some ("bytes", "__getattribute__") := by decide +kernel
section
variable {prog : Program} {w : World} {A : Around} {E : Value → Shared → Prop} {s : Shared} {x dx : Addr} {b c : Array UInt8} {t u : Tok} {K : Frag}
theorem attr_entry {A : Around} {od : Obj} {v : Value} {tk : Tok} {Q : Fin → Shared → Prop} (X : K.In s.heap) (I : InstAt s.heap x (exObj dx b t) 108 (some od)) (hf : findObj K 108 (some od) "id" = some (.value v)) (hq : Q (.done (.ret v)) s) :
    wpAny (model prog w) A (Builtin.«object.__getattribute__» ⟨[.ref x, .str "id" tk], []⟩) Q E s := by
  have L0 := I.type (M := model prog w)
  have L1 := looks_find (M := model prog w) X I hf
  show wpAny _ _ (typeOf (.ref x) >>= fun _ => _) _ _ _
  refine wpAny_bind (L0.here (wpAny_bind (L1.here ?_)))
  exact wpAny_pure hq
theorem attr_ex {od : Obj} {v : Value} {expr : Bool} {Q : Value → Shared → Prop} (X : K.In s.heap) (I : InstAt s.heap x (exObj dx b t) 108 (some od)) (hD : s.heap.get? 108 = some oE) (hx : s.heap.get? x = some (exObj dx b t))
    (L : Looks (model prog w) s.heap (typeLookup (.ref 108) "__getattribute__") (some (.builtin "bytes.__getattribute__"))) (Lh : Looks (model prog w) s.heap (typeLookup (.ref 108) "__getattr__") none)
    (hf : findObj K 108 (some od) "id" = some (.value v)) (hh : handedIn v = true) (h : Q v { s with toks := s.toks + 1 }) : wpAny (model prog w) A (getAttr (.ref x) "id" expr) Q E s := by
  have LT := looks_typeX (M := model prog w) hx
  obtain ⟨hp, gg, dd, tt, oo⟩ := s
  dsimp only at *
  unfold getAttr getAttrBy
  refine wpAny_bind (wpAny_mkText (wpAny_holding (wpAny_bind (LT.at (wpAny_bind (L.at ?_))))))
  show wpAny _ _ (getAttrByItsOwn (.ref x) (.str "id" tt) (.ref 108) (.builtin "bytes.__getattribute__") true expr) _ _ _
  unfold getAttrByItsOwn hookBefore callGetattribute boundAndCalled
  refine wpAny_bind (Lh.at ?_)
  refine wpAny_bind (wpAny_attempt (wpAny_holding ?_))
  have e : (expr && onTheHeap (.builtin "bytes.__getattribute__")) = false := by cases expr <;> rfl
  rw [e, if_neg (by decide)]
  refine wpAny_bind (wpAny_of_eq (PySem.F.slot_bytes_getattribute.bind _) ?_)
  refine wpAny_mono (Q := fun r s' => r = v ∧ s' = ⟨hp, gg, dd, tt + 1, oo⟩) (E := fun _ _ => False)
    (slot_ex (s := ⟨hp, gg, dd, tt + 1, oo⟩) PySem.F.slot_bytes_getattribute kind_ga split_ga PySem.F.entry_bytes_ga (PySem.F.args_bytes_getattribute_2 _ _) hD hx (attr_entry X I hf ⟨_, rfl, rfl, rfl⟩)) (fun r s' hv => ?_) fun _ _ z => z.elim
  obtain ⟨rfl, rfl⟩ := hv
  show wpAny _ _ (handedOut r) _ _ _
  rw [handedOut_of hh]; exact wpAny_pure h
theorem getid_ex {h₀ : Heap} {L : Addr} {m : Str → Option Value} {es : List DictEntry} {n : Nat} {attr : Option Value} {v : Value} {expr : Bool} {Q : Value → Shared → Prop} (F : Fr h₀ L s.heap m) (X₀ : K.In h₀) (I : InstAt s.heap x (exObj dx b t) 108 (some (dictOf es n)))
    (hK : K.lookup 108 = some oE) (g1 : findIn K (.ref 108) "__getattribute__" = some (some (.builtin "bytes.__getattribute__"))) (g2 : findIn K (.ref 108) "__getattr__" = some none)
    (hh : hasDictIn K 108 = true) (ha : findIn K (.ref 108) "id" = some attr) (hn : noGet K attr = true) (hl : getL "id" es = some (some v)) (hv : handedIn v = true) (h : Q v { s with toks := s.toks + 1 }) :
    wpAny (model prog w) A (getAttr (.ref x) "id" expr) Q E s :=
  have X := X₀.keeps F.keep
  attr_ex X I (F.keep _ _ (X₀ _ _ hK)) I.at_ (looks_findIn X g1) (looks_findIn X g2) (findObj_own hh ha hn hl) hv h
end
def Hid (p : Prop) : Prop := p
theorem eq_int {prog : Program} {w : World} {A : Around} {E : Value → Shared → Prop} {s : Shared} {x y : Int} {t u : Tok} {r : Bool} {Q : Value → Shared → Prop} (e : Hid ((x == y) = r)) (hq : Q (.bool r) s) :
    wpAny (model prog w) A (compareOp .Eq (.int x t) (.int y u)) Q E s := cmp_ofEq (PySem.SeqAt.RcAt.int_int x t y u prog w E Q ((show (x == y) = r from e) ▸ hq))
theorem ne_same {prog : Program} {w : World} {A : Around} {E : Value → Shared → Prop} {s : Shared} {b c : Array UInt8} {t u : Tok} {Q : Value → Shared → Prop} (e : KBw.bInts b = KBw.bInts c) (hq : Q (.bool false) s) :
    wpAny (model prog w) A (compareOp .NotEq (.bytes b t) (.bytes c u)) Q E s := by
  refine ne_bytes ?_
  have : (b.toList != c.toList) = false := by rw [ints_inj e]; simp
  rw [this]; exact hq
end Mine
end
section
theorem Mine.quietC8 : True := by
  w_top off
  trivial
open PySem PySem.W PyProof.Rows PySem.Calls PySem.Spec
set_option maxRecDepth 100000
set_option maxHeartbeats 1200000
namespace Mine
theorem Fr.two {g h : Heap} {L : Addr} {m : Str → Option Value} {x y : Str} {v u : Value} (F : Fr g L h m) (e1 : m x = some v) (e2 : m y = some u) :
    Fr g L h (fun z => if z = x then some v else if z = y then some u else m z) := by
  have : (fun z => if z = x then some v else if z = y then some u else m z) = m := by
    funext z
    by_cases q : z = x
    · rw [if_pos q, q, e1]
    · rw [if_neg q]
      by_cases q' : z = y
      · rw [if_pos q', q', e2]
      · rw [if_neg q']
  rw [this]; exact F
/-- the ground of a read -/
def RInv (K : Frag) (p₀ : Program) (loose : List Str) (mean : ExcName → Option Value) (mg mb : Str → Option Value) (A : Around) (base : Heap) (envs : List Env) (L' : Addr) (s : Shared) (tp : Addr) (u : T) (n : Nat) (s' : Shared) : Prop :=
  ∃ h tk g m vs nn ur rb rt done, s' = { s with heap := h, toks := tk } ∧ Below A base envs g ∧ K.In g ∧ Top p₀ loose mean mg mb g ∧ Fr g L' h m ∧ News g L' h ((tp, W.listOf (List.toArray vs) nn) :: done) ∧
    Kept (frs envs) s.heap g ∧ m (Str.ofString "rest") = some (.bytes rb rt) ∧ m (Str.ofString "told") = some (.ref tp) ∧ KBw.bInts rb = enc ur ∧ WF ur ∧ dep ur ≤ dep u ∧ (enc ur).length ≤ (enc u).length ∧ siz ur = n ∧ vs.length + n ≤ siz u ∧
    (∀ p ∈ done, tp < p.1) ∧ ∀ G vr, (∀ p ∈ done, G p.1 p.2) → Items true G ur vr → Items true G u (vs ++ vr)
theorem leaf_ne {n : Int} {z : Nat} {r : List Int} (h : r.length < z) : ((((hdr n z ++ r).length : Nat) : Int) - 4 == (hdr n z ++ r).getD (2 : Int).toNat 0 + 256 * (hdr n z ++ r).getD (3 : Int).toNat 0) = false := by
  have e := hdr_back (z : Int)
  have e2 : (hdr n z ++ r).getD (2 : Int).toNat 0 = Int.fmod z 256 := rfl
  have e3 : (hdr n z ++ r).getD (3 : Int).toNat 0 = Int.fdiv z 256 := rfl
  have e4 : (((hdr n z ++ r).length : Nat) : Int) - 4 = r.length := by simp only [hdr, List.length_append, List.length_cons, List.length_nil]; omega
  rw [e2, e3, e4, e]
  exact beq_eq_false_iff_ne.mpr (by omega)
theorem fld_eq {n : Int} {r : List Int} : ((((hdr n r.length ++ r).length : Nat) : Int) - 4 == (hdr n r.length ++ r).getD (2 : Int).toNat 0 + 256 * (hdr n r.length ++ r).getD (3 : Int).toNat 0) = true := by
  have e := hdr_back (r.length : Int)
  have e2 : (hdr n r.length ++ r).getD (2 : Int).toNat 0 = Int.fmod r.length 256 := rfl
  have e3 : (hdr n r.length ++ r).getD (3 : Int).toNat 0 = Int.fdiv r.length 256 := rfl
  have e4 : (((hdr n r.length ++ r).length : Nat) : Int) - 4 = r.length := by simp only [hdr, List.length_append, List.length_cons, List.length_nil]; omega
  rw [e2, e3, e4, e]
  exact beq_self_eq_true _
theorem out_sum {u : T} {v : Value} {pk rk : List Int} (h : OneOut (enc u) v pk rk) (hw : WF u) (hn : enc u ≠ []) : pk ++ rk = enc u := by
  rcases out_T h hw hn with ⟨bs, rfl, rfl, rfl, rfl, _⟩ | ⟨n, tk, z, r, rfl, rfl, rfl, rfl, _⟩ | ⟨n, k, r, tk, rfl, rfl, rfl, rfl⟩
  · simp [enc]
  · simp [enc]
  · simp [enc]
theorem out_ne {u : T} {v : Value} {pk rk : List Int} (h : OneOut (enc u) v pk rk) (hw : WF u) (hn : enc u ≠ []) : pk ≠ [] := by
  rcases out_T h hw hn with ⟨bs, rfl, rfl, rfl, rfl, h9⟩ | ⟨n, tk, z, r, rfl, rfl, rfl, rfl, _⟩ | ⟨n, k, r, tk, rfl, rfl, rfl, rfl⟩
  · exact h9
  · simp [hdr]
  · simp [hdr]
section
variable {K : Frag} {p₀ : Program} {loose : List Str} {mean : ExcName → Option Value} {mg mb : Str → Option Value} {A : Around} {base g : Heap} {envs : List Env} {L' D p x dx q tp q2 : Addr} {s : Shared} {u : T} {n nn n2 tk : Nat} {h : Heap} {m : Str → Option Value} {vs ks : List Value} {done done2 : List (Addr × Obj)} {o1 o2 o4 : Obj}
  {rb pb : Array UInt8} {rt t : Tok}
theorem RInv.leafStep {i : Option Int} {bs : List Int} {v : Value} (B : Below A base envs g) (X : K.In g) (TT : Top p₀ loose mean mg mb g) (F : Fr g L' h m)
    (N : News g L' h ((D, { cls := .type "tuple", data := .seq #[v, .ref x] }) :: (p, o1) :: (x, exObj dx pb t) :: (dx, o2) :: (q, o4) :: (tp, W.listOf ((List.toArray vs).push (.ref D)) nn) :: done)) (KG : Kept (frs envs) s.heap g)
    (e1 : m (Str.ofString "rest") = some (.bytes rb rt)) (e2 : m (Str.ofString "told") = some (.ref tp)) (hr : KBw.bInts rb = []) (hi : IdVal i v) (hb : KBw.bInts pb = bs)
    (l1 : @LT.lt Nat _ tp D) (l2 : @LT.lt Nat _ tp p) (l3 : @LT.lt Nat _ tp x) (l4 : @LT.lt Nat _ tp dx) (l5 : @LT.lt Nat _ tp q) (hdo : ∀ p ∈ done, tp < p.1) (hn : siz (.leaf i bs) = n) (hvs : vs.length + n ≤ siz u)
    (fin : ∀ G vr, (∀ p ∈ done, G p.1 p.2) → Items true G (.leaf i bs) vr → Items true G u (vs ++ vr)) :
    LoopGo (RInv K p₀ loose mean mg mb A base envs L' s tp u) n .next { s with heap := h, toks := tk } := by
  have hn : 1 = n := hn
  subst hn
  refine ⟨rfl, 0, Nat.one_pos, h, tk, g, m, vs ++ [.ref D], nn, .nil, rb, rt, (D, { cls := .type "tuple", data := .seq #[v, .ref x] }) :: (p, o1) :: (x, exObj dx pb t) :: (dx, o2) :: (q, o4) :: done, rfl, B, X, TT, F, News.sub N ?_, KG, e1, e2, hr, trivial, Nat.zero_le _, Nat.zero_le _, rfl, ?_, ?_, fun G vr hG hI => ?_⟩
  · have : (List.toArray vs).push (.ref D) = List.toArray (vs ++ [.ref D]) := by simp
    rw [this]
    intro p hp
    simp only [List.mem_cons] at hp ⊢
    rcases hp with h | h | h | h | h | h | h <;> simp [h]
  · rw [List.length_append, List.length_singleton]; omega
  · intro p hp
    simp only [List.mem_cons] at hp
    rcases hp with rfl | rfl | rfl | rfl | rfl | hp <;> first | assumption | exact hdo _ hp
  · have hI : vr = [] := hI
    subst hI
    rw [List.append_nil]
    exact fin G _ (fun p hp => hG p (by simp [hp])) ⟨D, v, .ref x, rfl, hG (D, _) (by simp), hi, x, dx, pb, t, rfl, hG (x, _) (by simp), hb⟩
theorem RInv.fldStep {n1 : Int} {tn : Tok} {kd rs : T} (B : Below A base envs g) (X : K.In g) (TT : Top p₀ loose mean mg mb g) (F : Fr g L' h m)
    (N : News g L' h ((D, { cls := .type "tuple", data := .seq #[.int n1 tn, .ref q2] }) :: (q2, W.listOf (List.toArray ks) n2) :: (p, o1) :: (x, exObj dx pb t) :: (dx, o2) :: (q, o4) :: (tp, W.listOf ((List.toArray vs).push (.ref D)) nn) :: (done2 ++ done))) (KG : Kept (frs envs) s.heap g)
    (e1 : m (Str.ofString "rest") = some (.bytes rb rt)) (e2 : m (Str.ofString "told") = some (.ref tp)) (hr : KBw.bInts rb = enc rs) (hw : WF rs) (hdp : dep (.fld n1 kd rs) ≤ dep u) (hle : (enc (.fld n1 kd rs)).length ≤ (enc u).length)
    (l1 : @LT.lt Nat _ tp D) (l2 : @LT.lt Nat _ tp p) (l3 : @LT.lt Nat _ tp x) (l4 : @LT.lt Nat _ tp dx) (l5 : @LT.lt Nat _ tp q) (l6 : @LT.lt Nat _ tp q2) (hdo : ∀ p ∈ done, tp < p.1) (hdo2 : ∀ p ∈ done2, tp < p.1) (hn : siz (.fld n1 kd rs) = n) (hvs : vs.length + n ≤ siz u)
    (hk : Items true (fun a o => (a, o) ∈ done2) kd ks)
    (fin : ∀ G vr, (∀ p ∈ done, G p.1 p.2) → Items true G (.fld n1 kd rs) vr → Items true G u (vs ++ vr)) :
    LoopGo (RInv K p₀ loose mean mg mb A base envs L' s tp u) n .next { s with heap := h, toks := tk } := by
  have hn : siz kd + siz rs + 1 = n := hn
  subst hn
  refine ⟨rfl, siz rs, by omega, h, tk, g, m, vs ++ [.ref D], nn, rs, rb, rt, (D, { cls := .type "tuple", data := .seq #[.int n1 tn, .ref q2] }) :: (q2, W.listOf (List.toArray ks) n2) :: (done2 ++ done), rfl, B, X, TT, F, News.sub N ?_, KG, e1, e2, hr, hw, ?_, ?_, rfl, ?_, ?_, fun G vr hG hI => ?_⟩
  · have : (List.toArray vs).push (.ref D) = List.toArray (vs ++ [.ref D]) := by simp
    rw [this]
    intro p hp
    simp only [List.mem_cons] at hp ⊢
    rcases hp with h | h | h | h <;> simp [h]
  · exact Nat.le_trans (Nat.le_max_right _ _) hdp
  · refine Nat.le_trans ?_ hle
    simp only [enc, List.length_append]; omega
  · rw [List.length_append, List.length_singleton]; omega
  · intro p hp
    simp only [List.mem_cons, List.mem_append] at hp
    rcases hp with rfl | rfl | hp | hp <;> first | assumption | exact hdo _ hp | exact hdo2 _ hp
  · rw [List.append_assoc]
    refine fin G _ (fun p hp => hG p (by simp [hp])) ⟨D, q2, tn, n2, ks, vr, rfl, hG (D, _) (by simp), hG (q2, _) (by simp), hk.mono fun a o ha => hG (a, o) (by simp [ha]), hI⟩
end
theorem ledger_turn {g h : Heap} {L : Addr} {done2 done : List (Addr × Obj)} {a b c d e f : Addr × Obj} (N : News g L h (done2 ++ a :: b :: c :: d :: e :: f :: done)) : News g L h (a :: b :: c :: d :: e :: f :: (done2 ++ done)) :=
  News.sub N (by
    intro q hq
    simp only [List.mem_cons, List.mem_append] at hq ⊢
    rcases hq with h | h | h | h | h | h | h | h <;> simp [h])
theorem newList_lo {prog : Program} {w : World} {A : Around} {E : Value → Shared → Prop} {s : Shared} {h₀ : Heap} {L : Addr} {m : Str → Option Value} {news : List (Addr × Obj)} {vs : List Value} {Q : Value → Shared → Prop} (F : Fr h₀ L s.heap m) (N : News h₀ L s.heap news)
    (h : ∀ l h', Fr h₀ L h' m → News h₀ L h' ((l, W.listOf vs.toArray 0) :: news) → (∀ p ∈ news, p.1 < l) → @LT.lt Nat _ L l → Q (.ref l) { s with heap := h' }) (hsz : vs.length ≤ sizeLine := by size_fits) : wpAny (model prog w) A (newList vs) Q E s :=
  newList_N F N (fun h' F' N' => h _ h' F' N' (fun p hp => Heap.lt_size (N p hp).1) F.ns.lt) hsz
local macro_rules | `(tactic| walk_at "newList") => `(tactic| (k_here; k_dflt (refine' newList_lo ?k1 ?k2 ?_; (case k1 => k_asm); (case k2 => k_asm); k_whole); intro l' h' F' N' l1 lo; (try k_lt l1); (try k_sweep)))
theorem enc_nil {u : T} (hw : WF u) (h : enc u = []) : u = .nil := by
  cases u with
  | nil => rfl
  | leaf i bs => exact absurd h hw.2
  | fld n k r => simp [enc, hdr] at h
theorem dep_kd {n : Int} {kd rs : T} {e : Nat} (h : dep (.fld n kd rs) ≤ e) : dep kd + 1 ≤ e := Nat.le_trans (Nat.le_max_left _ _) h
theorem siz_kd {n : Int} {kd rs : T} : siz kd ≤ siz (.fld n kd rs) := by simp only [siz]; omega
theorem enc_kd {n : Int} {kd rs : T} : (enc kd).length ≤ (enc (.fld n kd rs)).length := by simp only [enc, List.length_append]; omega
local macro_rules | `(tactic| walk_at "call ref") => `(tactic| (k_here; (with_reducible show wpAny _ _ (call (Value.ref 145) _) _ _ _); refine hold ?_))
theorem ite_ff {p q : Prop} (h : q) : if false = true then p else q := by rw [if_neg Bool.false_ne_true]; exact h
theorem ite_tt {p q : Prop} (h : p) : if true = true then p else q := by rw [if_pos rfl]; exact h
local macro_rules | `(tactic| walk_at "ite") => `(tactic| first | with_reducible refine ite_ff ?_ | with_reducible refine ite_tt ?_)
local macro_rules | `(tactic| walk_at "execs cons") => `(tactic| (k_here; with_reducible refine wpAny_execs_cons ?_))
local macro_rules | `(tactic| walk_at "execs nil") => `(tactic| (k_here; with_reducible refine wpAny_execs_nil ?_))
local macro_rules | `(tactic| k_all) => `(tactic| assumption)
local macro_rules | `(tactic| walk_at "exec While Compare") => `(tactic| (k_here; refine hold ?_))
local macro_rules | `(tactic| k_inst) => `(tactic| (refine' inst_ex ?N ?h1 ?h2; (case N => k_asm); (case h1 => k_mem); (case h2 => k_mem)))
local macro_rules | `(tactic| walk_at "call builtin:isinstance") => `(tactic| (k_here; (with_reducible show wpAny _ _ (call _ [Value.ref _, Value.ref 108]) _ _ _); k_dflt (refine isi_ex (dx := ?dx) (b := ?b) (t := ?t) ?a ?_; (case a => (exact News.get (by assumption) (by k_mem))))))
local macro_rules | `(tactic| walk_at "compareOp Eq ref bytes") => `(tactic| (k_here; k_dflt (refine cmp_eq_ex (dx := ?dx) (b := ?b) (t := ?t) (r := ?r) ?c ?a ?d ?e ?f ?_; (case a => (exact News.get (by assumption) (by k_mem))); (case c => (exact Fr.keep (by assumption) _ _ ((by assumption : Frag.In (Mine.hd.heap_39 _) _) _ _ (K108 _)))); (case d => ((refine looks_findIn (K := Mine.hd.heap_39 _) (Frag.In.keeps (by assumption) (Fr.keep (by assumption))) ?_; k_is))); (case e => assumption); (case f => assumption))))
local macro_rules | `(tactic| walk_at "binaryOp Add ref bytes") => `(tactic| (k_here; k_dflt (refine add_ex (dx := ?dx) (b := ?b) (t := ?t) ?c ?a ?d ?e ?f ?g ?i ?_; (case a => (exact News.get (by assumption) (by k_mem))); (case c => (exact Fr.keep (by assumption) _ _ ((by assumption : Frag.In (Mine.hd.heap_39 _) _) _ _ (K108 _)))); (case d => ((refine looks_findIn (K := Mine.hd.heap_39 _) (Frag.In.keeps (by assumption) (Fr.keep (by assumption))) ?_; k_is))); (case e => ((refine looks_findIn (K := Mine.hd.heap_39 _) (Frag.In.keeps (by assumption) (Fr.keep (by assumption))) ?_; k_is))); (case f => ((refine looks_findIn (K := Mine.hd.heap_39 _) (Frag.In.keeps (by assumption) (Fr.keep (by assumption))) ?_; k_is))); (case g => ((refine looks_findIn (K := Mine.hd.heap_39 _) (Frag.In.keeps (by assumption) (Fr.keep (by assumption))) ?_; k_is))); (case i => assumption)); intro dA tA kA hcat))
local macro_rules | `(tactic| walk_at "call builtin:len") => `(tactic| (k_here; (with_reducible show wpAny _ _ (call _ [Value.ref _]) _ _ _); k_dflt (refine len_ex (dx := ?dx) (b := ?b) (t := ?t) ?c ?a ?d ?e ?_; (case a => (exact News.get (by assumption) (by k_mem))); (case c => (exact Fr.keep (by assumption) _ _ ((by assumption : Frag.In (Mine.hd.heap_39 _) _) _ _ (K108 _)))); (case d => ((refine looks_findIn (K := Mine.hd.heap_39 _) (Frag.In.keeps (by assumption) (Fr.keep (by assumption))) ?_; k_is))); (case e => assumption)); intro tL kL))
local macro_rules | `(tactic| walk_at "subscriptTail Name Constant ref int") => `(tactic| (k_here; k_dflt (refine item_ex (dx := ?dx) (b := ?b) (t := ?t) ?c ?a ?d ?e ?f ?g ?_; (case a => (exact News.get (by assumption) (by k_mem))); (case c => (exact Fr.keep (by assumption) _ _ ((by assumption : Frag.In (Mine.hd.heap_39 _) _) _ _ (K108 _)))); (case d => ((refine looks_findIn (K := Mine.hd.heap_39 _) (Frag.In.keeps (by assumption) (Fr.keep (by assumption))) ?_; k_is))); (case e => decide); (case f => assumption); (case g => assumption)); intro tI kI))
local macro_rules | `(tactic| walk_at "subscriptTail Name Slice ref ref") => `(tactic| (k_here; (with_reducible rename Fr _ _ _ _ => oF); (with_reducible rename News _ _ _ _ => oN); k_dflt (refine slice_ex (s := ⟨_, _, _, _, _⟩) (dx := ?dx) (b := ?b) (t := ?t) oF oN ?c ?a ?d ?e ?f ?_; (case a => (exact News.get (by assumption) (by k_mem))); (case c => (exact Fr.keep (by assumption) _ _ ((by assumption : Frag.In (Mine.hd.heap_39 _) _) _ _ (K108 _)))); (case d => ((refine looks_findIn (K := Mine.hd.heap_39 _) (Frag.In.keeps (by assumption) (Fr.keep (by assumption))) ?_; k_is))); (case e => assumption); (case f => decide)); clear oF oN; intro hS dS tS kS F' N' lS hS4))
local macro_rules | `(tactic| walk_at "getAttr ref") => `(tactic| (k_here; (with_reducible show wpAny _ _ (getAttr (Value.ref _) (PySem.Str.ofString "id") _) _ _ _); k_dflt (refine' getid_ex ?k1 ?k2 ?k3 ?k4 ?k5 ?k6 ?k7 ?k8 ?k9 ?k10 ?k11 ?_; (case k1 => k_asm); (case k2 => k_asm); (case k3 => k_inst); (case k4 => exact rfl); (case k5 => k_is); (case k6 => k_is); (case k7 => k_is); (case k8 => k_is); (case k9 => k_is); (case k10 => k_get); (case k11 => k_handed); k_whole)))
local macro_rules | `(tactic| walk_at "compareOp NotEq bytes bytes") => `(tactic| (refine ne_same (Eq.trans (by assumption) (by assumption : KBw.bInts _ ++ KBw.bInts _ = KBw.bInts _)) ?_))
local macro_rules | `(tactic| walk_at "compareOp Eq int int") => `(tactic| (k_here; k_dflt (refine eq_int (r := ?r) ?a ?_; (case a => assumption))))
def ReadOK (w : World) (k : Nat) : Prop :=
  ∀ {mean : ExcName → Option Value} {mg mb : Str → Option Value} {dp un : Nat} {gd : Option (List Code)} {cn : Str} {cs : Scope} {a : Addr} {ccd : Value} {cl : List (Str × Addr)} {outer : List Env} {A₀ : Around} {base h₀ : Heap} {L : Addr} {m : Str → Option Value} {s : Shared} {Q E : Value → Shared → Prop}
  {b : Array UInt8} {t : Tok} {u : T}
  (_ : Below A₀ base outer h₀) (_ : Fr h₀ L s.heap m) (_ : (Mine.hd.heap_39 w.params).In base) (_ : Top Mine.hd.view_39 (looseW Mine.hd.view_39 [Str.ofString "_Extra"]) mean mg mb base) (_ : cs.kind = .function)
  (_ : KBw.bInts b = enc u) (_ : WF u) (_ : (enc u).length < 1000000) (_ : dep u ≤ k)
  (_ : dp + 2 * k + 20 < recursionLimit) (_ : un + 8 * k + 60 < cLine) (_ : siz u < 1000000)
  (_ : ∀ p n vs (done : List (Addr × Obj)) h' tk', Kept (L :: frs outer) s.heap h' → s.heap.objs.size ≤ p → h'.get? p = some (W.listOf (List.toArray vs) n) → (∀ q ∈ done, p < q.1 ∧ h'.get? q.1 = some q.2) → Items true (fun a o => (a, o) ∈ done) u vs → Q (.ref p) { s with heap := h', toks := tk' }),
  wpAny (model PySem.Challenge.rw_kl0365_01.row.prog w) (ktrTop dp un gd cn cs L a ccd cl outer) (call (.ref 145) [.bytes b t]) Q E s
theorem room_a {dp k e R : Nat} (h : dp + 2 * k + 20 < R) (q : e + 1 ≤ k) : dp + 1 + 2 * (k - 1) + 20 < R := by omega
theorem room_b {un k e R : Nat} (h : un + 8 * k + 60 < R) (q : e + 1 ≤ k) : un + 3 + 8 * (k - 1) + 60 < R := by omega
theorem read_step {w : World} {k : Nat} (IH : k = 0 ∨ ReadOK w (k - 1)) : ReadOK w k := by
  intro mean mg mb dp un gd cn cs a ccd cl outer A₀ base h₀ L m s Q E b t u B F XB TB hk hb hu hz hdk hd hun hsz ret
  revert XB; k_fill; intro XB
  have XS := (XB.keeps B.stays).keeps F.keep
  have TS := (TB.keeps B.stays).keeps F.keep
  have BS : Below (ktrTop dp un gd cn cs L a ccd cl outer) base (envX cn cs L a ccd cl :: outer) s.heap := by
    have := pushX B F (env := envX cn cs L a ccd cl) rfl hk
    exact ⟨rfl, this.stays, this.frames⟩
  refine wpAny_call (enterT XS TS.nolimit (by exact rfl) (by k_is) (show dp < recursionLimit from Nat.lt_of_le_of_lt (Nat.le_add_right _ _) (Nat.lt_of_le_of_lt (Nat.le_add_right _ _) hd)) (BindsTo.of_eq rfl) (locs rfl) (fun h₁ F₁ N₁ => ?_))
  have hXT := And.intro XB TB
  have hKF := F.keep
  clear F B XB TB
  (try dsimp only)
  k_steps
  (with_reducible rename Fr _ _ _ _ => F9)
  (with_reducible rename News _ _ _ _ => N9)
  refine Held.go ?_
  (with_reducible rename @LT.lt Nat _ _ _ => hlo)
  rename_i tp _ _ _ _
  have htp : s.heap.objs.size ≤ tp := Nat.le_of_lt hlo
  refine While_any (RInv (Mine.hd.heap_39 w.params) Mine.hd.view_39 (looseW Mine.hd.view_39 [Str.ofString "_Extra"]) mean mg mb (ktrTop dp un gd cn cs L a ccd cl outer) base (envX cn cs L a ccd cl :: outer) s.heap.objs.size s tp u) (n₀ := siz u)
    ⟨_, _, _, _, [], 0, u, b, t, [], rfl, BS, XS, TS, F9, N9, Kept.of_grown (Grown.refl _), rfl, rfl, hb, hu, Nat.le_refl _, Nat.le_refl _, rfl, by simp, (by simp), fun G vr _ x => x⟩ ?_
  clear F9 N9 BS XS TS
  rintro n s₁ ⟨h, tk, g, m, vs, nn, ur, rb, rt, done, rfl, BS, XS, TS, F9, N9, K9, e1, e2, hrb, hur, hdr9, hlr9, hn9, hvs9, hdo9, fin9⟩
  have hdn9 : ∀ p ∈ done, p.1 ≠ tp := fun p hp => Nat.ne_of_gt (hdo9 p hp)
  have F9 := Fr.two F9 e1 e2
  have hzr : (vs.toArray).size ≤ sizeLine := by rw [sizeLine_eq, List.size_toArray]; omega
  k_steps
  · (with_reducible rename Fr _ _ _ _ => oF)
    (with_reducible rename News _ _ _ (_ :: _ :: _) => oN)
    rename _ ∧ AllLt _ _ => l1
    rename (rb.toList != _) = true => hrn
    have hen : enc ur ≠ [] := hrb ▸ ne_nil hrn
    have hlz : (enc ur).length < 1000000 := by omega
    refine call_meth oN (List.Mem.head _) (one_spec (ks := enc ur) BS oF hXT.1 hXT.2 rfl hrb hlz (show dp + 1 + 8 < recursionLimit by omega) (fun p x dx t' hs tn u9 r pb v h' tk' k9 l2 l3 l4 hdx hx hp out => ?_))
    obtain ⟨g9, T9, B9, F9, X9, TT9, N9⟩ := turned BS oF k9 hXT.1 hXT.2
    have lx := Nat.le_trans l2 (show dx ≤ x by omega)
    have hL9 := oF.ns.lt
    have M9 := News.put2 F9 hL9 (News.put2 F9 hL9 (News.put2 F9 hL9 (N9 _ oN) l2 hdx) lx hx) (Nat.le_of_lt (Nat.lt_of_le_of_lt lx l4)) hp
    have l5 : @LT.lt Nat _ tp dx := Nat.lt_of_lt_of_le (Nat.lt_trans l1.1 (Heap.lt_size (oN.get (.head _)))) l2
    have KG := K9.trans ⟨fun b o e m => T9.other b o e m, T9.frame⟩
    clear oF oN N9 BS XS TS T9 K9
    have hu9 : un + 3 < cLine := by omega
    have hsum : KBw.bInts pb ++ KBw.bInts r = enc ur := out_sum out hur hen
    have hsr : KBw.bInts pb ++ KBw.bInts r = KBw.bInts rb := hsum.trans hrb.symm
    have hpb : KBw.bInts pb ≠ [] := out_ne out hur hen
    have hne := eq_nil hpb
    have hsz9 : pb.size + r.size ≤ 16777216 := by rw [← KBw.ints_length, ← KBw.ints_length, ← List.length_append, hsum]; omega
    have hpz : pb.size ≤ 1000000 := by
      have := congrArg List.length hsum
      rw [List.length_append, KBw.ints_length, KBw.ints_length] at this
      omega
    have hpz' : pb.size ≤ 1099511627776 := by omega
    rcases out_T out hur hen with ⟨bs, rfl, rfl, o1, o2, o3⟩ | ⟨n, tkn, z, r', rfl, rfl, o1, o2, o3⟩ | ⟨n, kd, rs, tkn, rfl, rfl, o1, o2⟩
    · clear out
      k_steps
      (with_reducible rename Fr _ _ _ _ => FF)
      (with_reducible rename News _ _ _ _ => NN)
      rename _ ∧ _ ∧ _ ∧ _ ∧ _ ∧ AllLt _ _ => ll
      exact RInv.leafStep (i := none) B9 X9 TT9 FF NN KG rfl rfl o2 rfl o1 (by omega) (by omega) (by omega) (by omega) l1.1 hdo9 hn9 hvs9 fin9
    · clear out
      have h2 : (2 : Int) < (pb.size : Nat) := by rw [← KBw.ints_length, o1]; simp only [hdr, List.length_append, List.length_cons, List.length_nil]; omega
      have h3 : (3 : Int) < (pb.size : Nat) := by rw [← KBw.ints_length, o1]; simp only [hdr, List.length_append, List.length_cons, List.length_nil]; omega
      have h4 : Hid ((((pb.size : Nat) : Int) - 4 == (KBw.bInts pb).getD (2 : Int).toNat 0 + 256 * (KBw.bInts pb).getD (3 : Int).toNat 0) = false) := by
        show _ = false
        rw [← KBw.ints_length, o1]; exact leaf_ne o3
      k_steps
      (with_reducible rename Fr _ _ _ _ => FF)
      (with_reducible rename News _ _ _ _ => NN)
      rename _ ∧ _ ∧ _ ∧ _ ∧ _ ∧ AllLt _ _ => ll
      exact RInv.leafStep (i := some n) B9 X9 TT9 FF NN KG rfl rfl o2 ⟨tkn, rfl⟩ o1 (by omega) (by omega) (by omega) (by omega) l1.1 hdo9 hn9 hvs9 fin9
    · clear out
      have h2 : (2 : Int) < (pb.size : Nat) := by rw [← KBw.ints_length, o1]; simp only [hdr, List.length_append, List.length_cons, List.length_nil]; omega
      have h3 : (3 : Int) < (pb.size : Nat) := by rw [← KBw.ints_length, o1]; simp only [hdr, List.length_append, List.length_cons, List.length_nil]; omega
      have h4 : Hid ((((pb.size : Nat) : Int) - 4 == (KBw.bInts pb).getD (2 : Int).toNat 0 + 256 * (KBw.bInts pb).getD (3 : Int).toNat 0) = true) := by
        show _ = true
        rw [← KBw.ints_length, o1]; exact fld_eq
      k_steps
      refine Held.go ?_
      have hkd : dep kd + 1 ≤ dep u := dep_kd hdr9
      have hk1 : dep kd + 1 ≤ k := Nat.le_trans hkd hdk
      have IH : ReadOK w (k - 1) := by
        rcases IH with e | IH
        · exact absurd hk1 (by rw [e]; exact Nat.not_succ_le_zero _)
        · exact IH
      (with_reducible rename Fr _ _ _ _ => FF)
      (with_reducible rename News _ _ _ _ => NN)
      (with_reducible rename KBw.bInts _ = List.drop _ _ => hS4)
      have hkb : KBw.bInts _ = enc kd := hS4.trans (by rw [o1]; rfl)
      have hlk : (enc kd).length < 1000000 := Nat.lt_of_le_of_lt enc_kd hlz
      have hsk : siz kd < 1000000 := Nat.lt_of_le_of_lt siz_kd (Nat.lt_of_le_of_lt (Nat.le_of_eq hn9) (Nat.lt_of_le_of_lt (Nat.le_add_left _ _) (Nat.lt_of_le_of_lt hvs9 hsz)))
      refine IH B9 FF hXT.1 hXT.2 rfl hkb hur.2.2.2.1 hlk (Nat.le_sub_one_of_lt hk1) (room_a hd hk1) (room_b hun hk1) hsk (fun p2 n2 vs2 done2 h2' tk2 k2 m1 hp2 hd2 it2 => ?_)
      obtain ⟨g8, T8, B8, F8, X8, TT8, N8⟩ := turned B9 FF k2 hXT.1 hXT.2
      have hL8 := FF.ns.lt
      have lt2 : ∀ b o, Heap.get? _ b = some o → b < p2 := fun b o e => Nat.lt_of_lt_of_le (Heap.lt_size e) m1
      have M8 := News.puts (done := done2) F8 hL8 (News.put2 F8 hL8 (N8 _ NN) m1 hp2) (fun q hq => ⟨Nat.le_trans m1 (Nat.le_of_lt (hd2 q hq).1), (hd2 q hq).2⟩)
      have M7 := ledger_turn M8
      have m2 : @LT.lt Nat _ tp p2 := lt2 _ _ (NN.get (by k_mem))
      have KG2 := KG.trans (Kept.mk (fun b o e m => T8.other b o e m) T8.frame)
      have hdn8 : ∀ q ∈ done2 ++ done, q.1 ≠ tp := fun q hq => by
        rcases List.mem_append.mp hq with h | h
        · exact Nat.ne_of_gt (Nat.lt_trans m2 (hd2 q h).1)
        · exact hdn9 q h
      have hdo8 : ∀ q ∈ done2, tp < q.1 := fun q h => Nat.lt_trans m2 (hd2 q h).1
      generalize hdd : done2 ++ done = dd at M7 hdn8
      clear M8 NN FF N8 T8 B9 X9 TT9 hdn9 k2
      have q2 : @LT.lt Nat _ tp x := l3 ▸ Nat.lt_succ_of_lt l5
      have q1 : @LT.lt Nat _ tp p := Nat.lt_trans q2 l4
      iterate 3 ((first | (k_unfold; (try dsimp only)) | (k_end; wrow_close) | walk1 | (dsimp only; walk1) | (leave1; walk_say "STEP leave1"; try dsimp only)))
      (with_reducible rename Fr _ _ _ _ => FF)
      (with_reducible rename News _ _ _ _ => NN)
      rename _ ∧ _ ∧ _ ∧ _ ∧ _ ∧ _ ∧ AllLt _ _ => ll
      have q0 : @LT.lt Nat _ tp _ := ll.2.2.2.2.2.1
      refine append_K FF NN (.tail (Nat.ne_of_gt q0) (.tail (Nat.ne_of_gt m2) (.tail (Nat.ne_of_gt q1) (.tail (Nat.ne_of_gt q2) (.tail (Nat.ne_of_gt l5) (.tail (Nat.ne_of_gt l1.1) (.head hdn8))))))) ?_ hzr
      clear FF NN
      intro hA FA NA
      k_steps
      subst hdd
      exact RInv.fldStep B8 X8 TT8 FA NA KG2 rfl rfl o2 hur.2.2.2.2 hdr9 hlr9 q0 q1 q2 l5 l1.1 m2 hdo9 hdo8 hn9 hvs9 it2 fin9
      all_goals exact absurd (eq_of_beq (show _ = true from h4)) (by assumption)
  · rename (rb.toList != _) = false => hrn
    have hen : enc ur = [] := hrb ▸ nil_of_ne hrn
    have hur0 := enc_nil hur hen
    subst hur0
    refine ret tp nn vs done _ _ (Kept.trans K9 (Kept.of_grown F9.keep)) htp (N9.get (.head _)) (fun q hq => ⟨hdo9 q hq, N9.get (.tail _ hq)⟩) ?_
    have := fin9 (fun a o => (a, o) ∈ done) [] (fun p hp => hp) rfl
    rwa [List.append_nil] at this
theorem read_ok {w : World} : ∀ k, ReadOK w k
  | 0 => read_step (.inl rfl)
  | k + 1 => read_step (.inr (read_ok k))
end Mine
end
section
theorem Mine.quietC9 : True := by
  w_top off
  trivial
open PySem PySem.W PyProof.Rows PySem.Calls PySem.Spec
set_option maxRecDepth 100000
set_option maxHeartbeats 1200000
namespace Mine
/-- what an end adds to a told list and its octets -/
def EndAdd (h' : Heap) (lo : Nat) (vs vs' : List Value) (ks ks' : List Int) : Prop :=
  (vs' = vs ∧ ks' = ks) ∨ ∃ (e : Addr) (v : Value) (eb : Array UInt8) (et : Tok) (i : Option Int), vs' = vs ++ [.ref e] ∧ lo ≤ e ∧ h'.get? e = some { cls := .type "tuple", data := .seq #[v, .bytes eb et] } ∧
    IdVal i v ∧ EndOK i (KBw.bInts eb) ∧ KBw.bInts eb ≠ [] ∧ ks' = ks ++ KBw.bInts eb
section
variable {prog : Program} {w : World} {A : Around} {E : Value → Shared → Prop} {s : Shared} {h₀ : Heap} {L l bb : Addr} {news : List (Addr × Obj)} {its : Array Value} {n k : Nat} {b c : Array UInt8} {t u : Tok}
theorem ne_nil_list {r : Bool} {Q : Value → Shared → Prop} (N : News h₀ L s.heap news) (h1 : (l, W.listOf its n) ∈ news) (h2 : (bb, W.listOf #[] k) ∈ news) (hu : A.units < cLine) (hr : (!(its.size == 0)) = r) (hq : Q (.bool r) s) :
    wpAny (model prog w) A (compareOp .NotEq (.ref l) (.ref bb)) Q E s := by
  have i1 : s.heap.IsList l its := ⟨_, N.get h1, rfl, n, rfl⟩
  have i2 : s.heap.IsList bb #[] := ⟨_, N.get h2, rfl, k, rfl⟩
  refine cmp_ofNotEq ?_
  by_cases h0 : its.size = 0
  · have e : its = #[] := by simpa using h0
    subst e
    have hr : r = false := by simpa using hr.symm
    subst hr
    exact PySem.SeqAt.RcNeAt.lists (e := fun _ => true) i1 i2 rfl hu (fun j h _ => absurd h (Nat.not_lt_zero j)) prog w E Q hq
  · have hr : r = true := by rw [← hr]; simpa using h0
    subst hr
    exact PySem.SeqAt.RcNeAt.lists_lengths i1 i2 (by simpa using h0) hu prog w E Q hq
theorem add_bb {Q : Value → Shared → Prop} (hz : b.size + c.size ≤ 16777216) (hq : ∀ d tk k, KBw.bInts d = KBw.bInts b ++ KBw.bInts c → Q (.bytes d tk) { s with toks := k }) :
    wpAny (model prog w) A (binaryOp .Add (.bytes b t) (.bytes c u)) Q E s := by
  exact KBy.add_bytes hz fun t' k => hq _ _ _ (by simp [KBw.bInts])
theorem endOK_size {i : Option Int} {b : Array UInt8} (h : EndOK i (KBw.bInts b)) : b.size ≤ 8 := by
  rw [← KBw.ints_length]
  cases i with
  | none => exact Nat.le_of_lt (Nat.lt_of_lt_of_le h (by decide))
  | some n =>
    obtain ⟨_, _, z, r, _, e, h4, _⟩ := h
    rw [e]; simp only [hdr, List.length_append, List.length_cons, List.length_nil]; omega
end
theorem ite_ff' {p q : Prop} (h : q) : if false = true then p else q := by rw [if_neg Bool.false_ne_true]; exact h
theorem ite_tt' {p q : Prop} (h : p) : if true = true then p else q := by rw [if_pos rfl]; exact h
local macro_rules | `(tactic| walk_at "execs cons") => `(tactic| (k_here; with_reducible refine wpAny_execs_cons ?_))
local macro_rules | `(tactic| walk_at "execs nil") => `(tactic| (k_here; with_reducible refine wpAny_execs_nil ?_))
local macro_rules | `(tactic| walk_at "ite") => `(tactic| first | with_reducible refine ite_ff' ?_ | with_reducible refine ite_tt' ?_)
local macro_rules | `(tactic| walk_at "call ref") => `(tactic| (k_here; (with_reducible show wpAny _ _ (call (Value.ref 117) _) _ _ _); (with_reducible rename Fr _ _ _ _ => oF); (with_reducible rename News _ _ _ _ => oN); k_dflt (refine end_spec (by assumption) oF (by assumption) (by assumption) rfl (by assumption) ?_); intro p9 v9 eb9 et9 h9 tk9 i9 hg9 hp9 hle9 hid9 hok9; have hz9 := endOK_size hok9; have ltL9 := Nat.lt_of_lt_of_le oF.ns.lt hle9; have F' := oF.keptAll hg9; have N' := News.put oF (oN.grown hg9) hle9 hp9; have lt9 : AllLt p9 _ := allLt_of (fun p hp => Nat.lt_of_lt_of_le (Heap.lt_size (oN p hp).1) hle9); clear oF oN; (try dsimp only [AllLt] at lt9)))
local macro_rules | `(tactic| walk_at "call ref") => `(tactic| (k_here; (with_reducible show wpAny _ _ (call (Value.ref 124) _) _ _ _); (with_reducible rename Fr _ _ _ _ => oF); (with_reducible rename News _ _ _ _ => oN); k_dflt (refine field_spec (by assumption) oF (by assumption) oN (by assumption) rfl (by assumption) (by assumption) rfl (by assumption) (by assumption) ?_); clear oF oN; intro c9 tc9 h9 tk9 F' N' hc9))
local macro_rules | `(tactic| walk_at "binaryOp Add bytes bytes") => `(tactic| (k_here; k_dflt (refine add_bb ?a ?_; (case a => omega)); intro dA tA kA hcat))
local macro_rules | `(tactic| walk_at "compareOp NotEq ref ref") => `(tactic| (k_here; (with_reducible rename News _ _ _ _ => oN); k_dflt (refine ne_nil_list (r := ?r) (its := ?its) (n := ?n) (k := ?k) oN ?a ?b ?c ?d ?_; (case a => k_mem); (case b => k_mem); (case c => assumption); (case d => first | rfl | (simp; done)))))
theorem shut_last {w : World} {mean : ExcName → Option Value} {mg mb : Str → Option Value} {dp un : Nat} {gd : Option (List Code)} {cn : Str} {cs : Scope} {a : Addr} {ccd : Value} {cl : List (Str × Addr)} {outer : List Env} {A₀ : Around} {base h₀ : Heap} {L : Addr} {m : Str → Option Value} {s : Shared} {Q E : Value → Shared → Prop}
  {q : Int} {tq bt : Tok} {lv c t : Addr} {n0 n1 n2 : Nat} {nm : Value} {b : Array UInt8} {vs : List Value}
  (B : Below A₀ base outer h₀) (F : Fr h₀ L s.heap m) (X : (Mine.hd.heap_39 w.params).In h₀) (T : Top Mine.hd.view_39 (looseW Mine.hd.view_39 [Str.ofString "_Extra"]) mean mg mb h₀) (hk : cs.kind = .function)
  (N : News h₀ L s.heap [(lv, W.listOf #[.ref c] n0), (c, W.listOf #[nm, .ref t, .bytes b bt] n1), (t, W.listOf (List.toArray vs) n2)]) (d1 : @Ne Nat lv c) (d2 : @Ne Nat lv t) (d3 : @Ne Nat c t)
  (hvz : vs.length < 1000) (hbz : b.size < 60000) (hd : dp + 8 < recursionLimit) (hun : un + 60 < cLine)
  (ret : ∀ p vs' b' tb' n2' h' tk', (∀ x o, s.heap.get? x = some o → x ≠ lv → x ≠ c → x ≠ t → h'.get? x = some o) → EndAdd h' s.heap.objs.size vs vs' (KBw.bInts b) (KBw.bInts b') → h'.get? t = some (W.listOf (List.toArray vs') n2') →
    h'.get? p = some { cls := .type "tuple", data := .seq #[.ref t, .bytes b' tb'] } → s.heap.objs.size ≤ p → Q (.ref p) { s with heap := h', toks := tk' }) :
  wpAny (model PySem.Challenge.rw_kl0365_01.row.prog w) (ktrTop dp un gd cn cs L a ccd cl outer) (call (.ref 131) [.ref lv, .int q tq]) Q E s := by
  revert X; k_fill; intro X
  refine wpAny_call (enterP B F X N T rfl rfl hk (by exact rfl) (by k_is) (show dp < recursionLimit from Nat.lt_of_le_of_lt (Nat.le_add_right _ _) hd) (BindsTo.of_eq rfl) (locs rfl) ?_ rfl rfl rfl (by decide))
  k_whole
  intro g L' h1 FG F1 N1 B1 X1 T1 l1 hg9 hL9
  clear B F X N T
  have hd9 : dp + 1 + 4 < recursionLimit := by omega
  have hu9 : un + 3 < cLine := by omega
  (try dsimp only)
  have keep9 : ∀ {h' : Heap} {m' : Str → Option Value}, Fr g L' h' m' → ∀ x o, s.heap.get? x = some o → x ≠ lv → x ≠ c → x ≠ t → h'.get? x = some o :=
    fun F' x o e e1 e2 e3 => F'.keep x o (hg9 x o e (by simp [e1, e2, e3]))
  k_steps
  · (with_reducible rename Fr _ _ _ _ => FF)
    (with_reducible rename News _ _ _ _ => NN)
    (with_reducible rename EndOK _ _ => hok)
    (with_reducible rename IdVal _ _ => hid)
    (with_reducible rename KBw.bInts _ = _ ++ _ => hcat)
    (with_reducible rename (_ != _) = true => hne)
    (with_reducible rename L' < _ => hlt)
    rename _ ∧ _ ∧ _ ∧ _ => ll
    have lo := Nat.le_trans hL9 (Nat.le_of_lt hlt)
    refine leaveK_ FF NN (fun _ _ => ret _ (vs ++ [_]) _ _ (n2 + 1) _ _ (keep9 FF) (.inr ⟨_, _, _, _, _, rfl, lo, NN.get (.tail _ (.tail _ (.head _))), hid, hok, ne_nil hne, hcat⟩) ?_ (NN.get (.head _)) ?_)
    · have := NN.get (.tail _ (.tail _ (.tail _ (.tail _ (.tail _ (.head _))))))
      rw [this]; simp
    · exact Nat.le_trans lo (Nat.le_of_lt ll.2.1)
  · (with_reducible rename Fr _ _ _ _ => FF)
    (with_reducible rename News _ _ _ _ => NN)
    (with_reducible rename L' < _ => hlt)
    rename _ ∧ _ ∧ _ ∧ _ => ll
    have lo := Nat.le_trans hL9 (Nat.le_of_lt hlt)
    refine leaveK_ FF NN (fun _ _ => ret _ vs _ _ _ _ _ (keep9 FF) (.inl ⟨rfl, rfl⟩) (NN.get (.tail _ (.tail _ (.tail _ (.tail _ (.tail _ (.head _))))))) (NN.get (.head _)) ?_)
    exact Nat.le_trans lo (Nat.le_of_lt ll.2.1)
end Mine
end
section
theorem Mine.quietC10 : True := by
  w_top off
  trivial
open PySem PySem.W PyProof.Rows PySem.Calls PySem.Spec
set_option maxRecDepth 100000
set_option maxHeartbeats 1200000
namespace Mine
theorem item_last {prog : Program} {w : World} {A : Around} {E : Value → Shared → Prop} {s : Shared} {h₀ : Heap} {L l : Addr} {news : List (Addr × Obj)} {p : List Value} {y : Value} {n : Nat} {u : Tok} {value slice : Expr} {Q : Value → Shared → Prop} (N : News h₀ L s.heap news)
    (hm : (l, W.listOf (List.toArray (p ++ [y])) n) ∈ news) (h : Q y s)
    (hs : subscripted slice false (.ref l) (.int (-1) u) = operate [.ref l, .int (-1) u] (getItem (.ref l) (.int (-1) u)) := by with_unfolding_all rfl) :
    wpAny (model prog w) A (subscriptTail value slice (.ref l) (.int (-1) u)) Q E s := by
  refine kde_neg (vs := p ++ [y]) (j := p.length) ⟨_, N.get hm, rfl, n, rfl⟩ (by decide) (by decide) ?_ (by simp) h hs
  unfold seqIndex?
  simp only [List.length_append, List.length_cons, List.length_nil]
  simp
  omega
section
variable {prog : Program} {w : World} {A : Around} {E : Value → Shared → Prop} {s : Shared} {h₀ : Heap} {L D : Addr} {m : Str → Option Value} {news news' : List (Addr × Obj)} {its its' : Array Value} {n : Nat} {k : Int} {t u : Tok} {v : Value} {b c : Array UInt8}
theorem get_at {Q : Value → Shared → Prop} (N : News h₀ L s.heap news) (hm : (D, W.listOf its n) ∈ news) (h0 : 0 ≤ k) (hfit : k < 2 ^ 63) (hx : its[k.toNat]? = some v) (h : Q v s) : wpAny (model prog w) A (getItem (.ref D) (.int k u)) Q E s :=
  wpAny_getItem_list ⟨_, N.get hm, rfl, n, rfl⟩ h0 hfit hx h
theorem set_at {Q : Unit → Shared → Prop} (F : Fr h₀ L s.heap m) (N : News h₀ L s.heap news) (U : Upd D (W.listOf its n) (W.listOf its' n) news news') (h0 : 0 ≤ k) (hfit : k < 2 ^ 63) (hk : k < its.size) (e : its.setIfInBounds k.toNat v = its')
    (h : ∀ h', Fr h₀ L h' m → News h₀ L h' news' → Q () { s with heap := h' }) : wpAny (model prog w) A (setItem (.ref D) (.int k t) v) Q E s := by
  obtain ⟨pre, post, rfl, rfl, a, b⟩ := U.split
  have z := N (D, W.listOf its n) (List.mem_append.mpr (.inr (.head _)))
  refine ki_setAt z.1 h0 hfit hk (h _ (F.change (Heap.SameBut.update ..) z.2.1 z.2.2) (ki_turn _ N a b ?_ ?_))
  · exact e
  · rw [← e]; simp
theorem get_two {x y z : Value} {Q : Value → Shared → Prop} (N : News h₀ L s.heap news) (hm : (D, W.listOf #[x, y, z] n) ∈ news) (h : Q z s) : wpAny (model prog w) A (getItem (.ref D) (.int 2 u)) Q E s := get_at N hm (by decide) (by decide) rfl h
theorem set_two {x y z : Value} {Q : Unit → Shared → Prop} (F : Fr h₀ L s.heap m) (N : News h₀ L s.heap news) (U : Upd D (W.listOf #[x, y, z] n) (W.listOf #[x, y, v] n) news news')
    (h : ∀ h', Fr h₀ L h' m → News h₀ L h' news' → Q () { s with heap := h' }) : wpAny (model prog w) A (setItem (.ref D) (.int 2 t) v) Q E s := set_at F N U (by decide) (by decide) (by show (2 : Int) < 3; decide) rfl h
theorem iadd_bb {Q : Value → Shared → Prop} (hz : b.size + c.size ≤ 16777216) (hq : ∀ d tk k, KBw.bInts d = KBw.bInts b ++ KBw.bInts c → Q (.bytes d tk) { s with toks := k }) :
    wpAny (model prog w) A (inplaceOp .Add (.bytes b t) (.bytes c u)) Q E s := by
  refine iconcat_gives (typeIs_bytes s b t) (typeIs_bytes s c u) (by rw [typeLookup_type, builtinLookup_eq_fast]; kernel_rfl) KBy.noFill_bytes_add KBy.seq_bytes_add FB.slot_bytes_add FB.entry_bytes_add (FB.args_bytes_add_2 _ _) (KBy.gives_bytes_add (KBy.tooLong_not hz)) ?_
  by_cases hb : b.isEmpty = true
  · rw [if_pos hb]
    have : b = #[] := Array.isEmpty_iff.1 hb
    exact hq c u _ (by rw [this]; rfl)
  · rw [if_neg hb]
    by_cases hc : c.isEmpty = true
    · rw [if_pos hc]
      have : c = #[] := Array.isEmpty_iff.1 hc
      exact hq b t _ (by rw [this]; simp [KBw.bInts])
    · rw [if_neg hc]
      exact ⟨by rw [Array.size_append, sizeLine_eq]; exact hz, hq (b ++ c) s.toks (s.toks + 1) (by simp [KBw.bInts])⟩
theorem fz_of {n : Int} {ks : List Int} (h : KBw.bInts c = hdr n ks.length ++ ks) (hz : ks.length < 65536) : c.size < 65540 := by
  rw [← KBw.ints_length, h]; simp only [hdr, List.length_append, List.length_cons, List.length_nil]; omega
theorem gentk {M : Model} {α : Type} {tr : Sem α} {Q : α → Shared → Prop} {hp : Heap} {gg : Array GenState} {dd : Drawn} {X : Nat} {oo : OsState} (h : ∀ tk, wpAny M A tr Q E ⟨hp, gg, dd, tk, oo⟩) : wpAny M A tr Q E ⟨hp, gg, dd, X, oo⟩ := h X
end
theorem last_of (p : List Value) (y : Value) : kl_last (List.toArray (p ++ [y])).toList = some (p, y) := by
  have e := kpa_last y p
  simpa using e
local macro_rules | `(tactic| walk_at "execs cons") => `(tactic| (k_here; (with_reducible refine wpAny_execs_cons ?_); (try dsimp only); (try (with_reducible refine gentk ?_; intro tk9))))
local macro_rules | `(tactic| walk_at "execs nil") => `(tactic| (k_here; with_reducible refine wpAny_execs_nil ?_))
local macro_rules | `(tactic| walk_at "ite") => `(tactic| first | with_reducible refine ite_ff' ?_ | with_reducible refine ite_tt' ?_)
local macro_rules | `(tactic| walk_at "call ref") => `(tactic| (k_here; (with_reducible show wpAny _ _ (call (Value.ref 117) _) _ _ _); (with_reducible rename Fr _ _ _ _ => oF); (with_reducible rename News _ _ _ _ => oN); k_dflt (refine end_spec (by assumption) oF (by assumption) (by assumption) rfl (by assumption) ?_); intro p9 v9 eb9 et9 h9 tk9 i9 hg9 hp9 hle9 hid9 hok9; have hz9 := endOK_size hok9; have ltL9 := Nat.lt_of_lt_of_le oF.ns.lt hle9; have F' := oF.keptAll hg9; have N' := News.put oF (oN.grown hg9) hle9 hp9; have lt9 : AllLt p9 _ := allLt_of (fun p hp => Nat.lt_of_lt_of_le (Heap.lt_size (oN p hp).1) hle9); clear oF oN; (try dsimp only [AllLt] at lt9)))
local macro_rules | `(tactic| walk_at "call ref") => `(tactic| (k_here; (with_reducible show wpAny _ _ (call (Value.ref 124) _) _ _ _); (with_reducible rename Fr _ _ _ _ => oF); (with_reducible rename News _ _ _ _ => oN); k_dflt (refine field_spec (by assumption) oF (by assumption) oN (by assumption) rfl (by assumption) (by assumption) rfl ?hz (by assumption) ?_; (case hz => first | (rw [KBw.ints_length]; omega) | ((with_reducible rename KBw.bInts _ = _ ++ _ => hq9); rw [hq9, List.length_append, KBw.ints_length, KBw.ints_length]; omega))); clear oF oN; intro c9 tc9 h9 tk9 F' N' hc9; have fz9 := fz_of hc9 (by first | (rw [KBw.ints_length]; omega) | ((with_reducible rename KBw.bInts _ = KBw.bInts _ ++ KBw.bInts _ => hq9); rw [hq9, List.length_append, KBw.ints_length, KBw.ints_length]; omega))))
local macro_rules | `(tactic| walk_at "binaryOp Add bytes bytes") => `(tactic| (k_here; k_dflt (refine add_bb ?a ?_; (case a => omega)); intro dA tA kA hcat))
local macro_rules | `(tactic| walk_at "compareOp NotEq ref ref") => `(tactic| (k_here; (with_reducible rename News _ _ _ _ => oN); k_dflt (refine ne_nil_list (r := true) (its := ?its) (n := ?n) (k := ?k) oN ?a ?b ?c ?d ?_; (case a => k_mem); (case b => k_mem); (case c => assumption); (case d => simp))))
local macro_rules | `(tactic| walk_at "subscriptTail Name UnaryOp ref int") => `(tactic| (k_here; (with_reducible rename News _ _ _ _ => oN); k_dflt (refine item_last (p := ?p) (y := ?y) (n := ?n) oN ?a ?_; (case a => k_mem))))
local macro_rules | `(tactic| walk_at "getItem ref int") => `(tactic| (k_here; (with_reducible rename News _ _ _ _ => oN); k_dflt (refine get_two (x := ?x) (y := ?y) (z := ?z) (n := ?n) oN ?a ?_; (case a => k_mem))))
local macro_rules | `(tactic| walk_at "setItem ref int") => `(tactic| (k_here; (with_reducible rename Fr _ _ _ _ => oF); (with_reducible rename News _ _ _ _ => oN); k_dflt (refine set_two (x := ?x) (y := ?y) (z := ?z) (n := ?n) oF oN ?U ?_; (case U => k_upd)); clear oF oN; intro hT F' N'))
local macro_rules | `(tactic| walk_at "inplaceOp Add bytes bytes") => `(tactic| (k_here; k_dflt (refine iadd_bb ?a ?_; (case a => omega)); intro dA tA kA hcat))
theorem shut_parent {w : World} {mean : ExcName → Option Value} {mg mb : Str → Option Value} {dp un : Nat} {gd : Option (List Code)} {cn : Str} {cs : Scope} {a : Addr} {ccd : Value} {cl : List (Str × Addr)} {outer : List Env} {A₀ : Around} {base h₀ : Heap} {L : Addr} {m : Str → Option Value} {s : Shared} {Q E : Value → Shared → Prop}
  {q n : Int} {tq bt tn pbt : Tok} {lv c t pl pt : Addr} {n0 n1 n2 n3 n4 : Nat} {pnm : Value} {b pb : Array UInt8} {vs ls pvs : List Value}
  (B : Below A₀ base outer h₀) (F : Fr h₀ L s.heap m) (X : (Mine.hd.heap_39 w.params).In h₀) (T : Top Mine.hd.view_39 (looseW Mine.hd.view_39 [Str.ofString "_Extra"]) mean mg mb h₀) (hk : cs.kind = .function)
  (N : News h₀ L s.heap [(lv, W.listOf (List.toArray ((ls ++ [.ref pl]) ++ [.ref c])) n0), (c, W.listOf #[.int n tn, .ref t, .bytes b bt] n1), (t, W.listOf (List.toArray vs) n2), (pl, W.listOf #[pnm, .ref pt, .bytes pb pbt] n3), (pt, W.listOf (List.toArray pvs) n4)])
  (d1 : @Ne Nat lv c) (d2 : @Ne Nat lv t) (d3 : @Ne Nat c t) (d4 : @Ne Nat lv pl) (d5 : @Ne Nat lv pt) (d6 : @Ne Nat c pl) (d7 : @Ne Nat c pt) (d8 : @Ne Nat t pl) (d9 : @Ne Nat t pt) (d10 : @Ne Nat pl pt)
  (hn0 : 0 ≤ n) (hn1 : n < 65536) (hlz : ls.length < 1000) (hvz : vs.length < 1000) (hpvz : pvs.length < 1000) (hbz : b.size < 60000) (hpz : pb.size < 60000) (hd : dp + 8 < recursionLimit) (hun : un + 60 < cLine)
  (ret : ∀ p f vs' pb' b' tb' pbt' n0' n2' n3' n4' tn' h' tk', (∀ x o, s.heap.get? x = some o → x ≠ lv → x ≠ c → x ≠ t → x ≠ pl → x ≠ pt → h'.get? x = some o) → EndAdd h' s.heap.objs.size vs vs' (KBw.bInts b) (KBw.bInts b') → h'.get? t = some (W.listOf (List.toArray vs') n2') →
    h'.get? lv = some (W.listOf (List.toArray (ls ++ [.ref pl])) n0') → h'.get? pl = some (W.listOf #[pnm, .ref pt, .bytes pb' pbt'] n3') → KBw.bInts pb' = KBw.bInts pb ++ (hdr n (KBw.bInts b').length ++ KBw.bInts b') →
    h'.get? pt = some (W.listOf (List.toArray (pvs ++ [.ref f])) n4') → h'.get? f = some { cls := .type "tuple", data := .seq #[.int n tn', .ref t] } → s.heap.objs.size ≤ f →
    h'.get? p = some { cls := .type "tuple", data := .seq #[.ref t, .bytes b' tb'] } → s.heap.objs.size ≤ p → Q (.ref p) { s with heap := h', toks := tk' }) :
  wpAny (model PySem.Challenge.rw_kl0365_01.row.prog w) (ktrTop dp un gd cn cs L a ccd cl outer) (call (.ref 131) [.ref lv, .int q tq]) Q E s := by
  revert X; k_fill; intro X
  refine wpAny_call (enterP B F X N T rfl rfl hk (by exact rfl) (by k_is) (show dp < recursionLimit from Nat.lt_of_le_of_lt (Nat.le_add_right _ _) hd) (BindsTo.of_eq rfl) (locs rfl) ?_ rfl rfl rfl (by decide))
  k_whole
  intro g L' h1 FG F1 N1 B1 X1 T1 l1 hg9 hL9
  clear B F X N T
  have hd9 : dp + 1 + 4 < recursionLimit := by omega
  have hu9 : un + 3 < cLine := by omega
  (try dsimp only)
  k_steps
  (with_reducible rename Fr _ _ _ _ => FF)
  (with_reducible rename News _ _ _ _ => NN)
  refine kl_pop (p := ls ++ [.ref pl]) (y := .ref c) (its := List.toArray ((ls ++ [.ref pl]) ++ [.ref c])) FF NN (last_of _ _) (by k_upd) ?z ?_
  · (simp only [List.length_append, List.length_cons, List.length_nil, List.toList_toArray, sizeLine_eq]; omega)
  clear FF NN
  intro h2 FF NN
  have keep9 : ∀ {h' : Heap} {m' : Str → Option Value}, Fr g L' h' m' → ∀ x o, s.heap.get? x = some o → x ≠ lv → x ≠ c → x ≠ t → x ≠ pl → x ≠ pt → h'.get? x = some o :=
    fun F' x o e e1 e2 e3 e4 e5 => F'.keep x o (hg9 x o e (by simp [e1, e2, e3, e4, e5]))
  k_steps
  · (with_reducible rename Fr _ _ _ _ => FF)
    (with_reducible rename News _ _ _ _ => NN)
    (with_reducible rename EndOK _ _ => hok)
    (with_reducible rename IdVal _ _ => hid)
    (with_reducible rename KBw.bInts _ = KBw.bInts b ++ _ => hc1)
    (with_reducible rename KBw.bInts _ = KBw.bInts pb ++ _ => hc2)
    (with_reducible rename KBw.bInts _ = hdr _ _ ++ _ => hc3)
    (with_reducible rename (_ != _) = true => hne)
    (with_reducible rename L' < _ => hlt)
    rename _ ∧ _ ∧ _ ∧ _ ∧ _ ∧ _ ∧ _ ∧ _ => ll
    obtain ⟨z1, -, z3, -⟩ := ll
    rename _ ∧ _ ∧ _ ∧ _ ∧ _ ∧ _ ∧ _ => ll2
    obtain ⟨-, y2, -⟩ := ll2
    have lo := Nat.le_trans hL9 (Nat.le_of_lt hlt)
    refine leaveK_ FF NN (fun _ _ => ret _ _ (vs ++ [_]) _ _ _ _ (n0 + 1) (n2 + 1) n3 (n4 + 1) _ _ _ (keep9 FF) (.inr ⟨_, _, _, _, _, rfl, lo, NN.get (.tail _ (.tail _ (.tail _ (.head _)))), hid, hok, ne_nil hne, hc1⟩)
      (NN.get (.tail _ (.tail _ (.tail _ (.tail _ (.tail _ (.tail _ (.head _)))))))) (NN.get (.tail _ (.tail _ (.tail _ (.tail _ (.head _)))))) (NN.get (.tail _ (.tail _ (.tail _ (.tail _ (.tail _ (.tail _ (.tail _ (.head _)))))))))
      (hc2.trans (by rw [hc3])) ?_ (NN.get (.tail _ (.head _))) (Nat.le_trans lo (Nat.le_of_lt y2)) (NN.get (.head _)) (Nat.le_trans lo (Nat.le_of_lt z3)))
    have := NN.get (.tail _ (.tail _ (.tail _ (.tail _ (.tail _ (.tail _ (.tail _ (.tail _ (.head _)))))))))
    rw [this]; simp
  · (with_reducible rename Fr _ _ _ _ => FF)
    (with_reducible rename News _ _ _ _ => NN)
    (with_reducible rename KBw.bInts _ = KBw.bInts pb ++ _ => hc2)
    (with_reducible rename KBw.bInts _ = hdr _ _ ++ _ => hc3)
    (with_reducible rename L' < _ => hlt)
    rename _ ∧ _ ∧ _ ∧ _ ∧ _ ∧ _ ∧ _ ∧ _ => ll
    obtain ⟨z1, -, z3, -⟩ := ll
    rename _ ∧ _ ∧ _ ∧ _ ∧ _ ∧ _ ∧ _ => ll2
    obtain ⟨-, y2, -⟩ := ll2
    have lo := Nat.le_trans hL9 (Nat.le_of_lt hlt)
    refine leaveK_ FF NN (fun _ _ => ret _ _ vs _ _ _ _ (n0 + 1) n2 n3 (n4 + 1) _ _ _ (keep9 FF) (.inl ⟨rfl, rfl⟩)
      (NN.get (.tail _ (.tail _ (.tail _ (.tail _ (.tail _ (.tail _ (.head _)))))))) (NN.get (.tail _ (.tail _ (.tail _ (.tail _ (.head _)))))) (NN.get (.tail _ (.tail _ (.tail _ (.tail _ (.tail _ (.tail _ (.tail _ (.head _)))))))))
      (hc2.trans (by rw [hc3])) ?_ (NN.get (.tail _ (.head _))) (Nat.le_trans lo (Nat.le_of_lt y2)) (NN.get (.head _)) (Nat.le_trans lo (Nat.le_of_lt z3)))
    have := NN.get (.tail _ (.tail _ (.tail _ (.tail _ (.tail _ (.tail _ (.tail _ (.tail _ (.head _)))))))))
    rw [this]; simp
end Mine
end
section
open PySem PySem.W PyProof.Rows PySem.Calls PySem.Spec
namespace Mine
theorem enc_mk (l : List (Int × T)) (e : T) : enc (T.mk l e) = enc (T.mk l .nil) ++ enc e := by
  induction l with
  | nil => simp [T.mk, enc]
  | cons p l ih =>
    obtain ⟨n, k⟩ := p
    simp only [T.mk, enc]
    rw [ih]
    simp [List.append_assoc]
theorem enc_snoc (l : List (Int × T)) (n : Int) (k : T) : enc (T.mk (l ++ [(n, k)]) .nil) = enc (T.mk l .nil) ++ (hdr n (enc k).length ++ enc k) := by
  induction l with
  | nil => simp [T.mk, enc]
  | cons p l ih =>
    obtain ⟨m, j⟩ := p
    simp only [T.mk, enc, List.cons_append]
    rw [ih]
    simp [List.append_assoc]
def FOK (p : Int × T) : Prop := 0 ≤ p.1 ∧ p.1 < 65536 ∧ (enc p.2).length < 65536 ∧ WF p.2
theorem WF_mk {l : List (Int × T)} {e : T} (h : ∀ p ∈ l, FOK p) (he : WF e) : WF (T.mk l e) := by
  induction l with
  | nil => exact he
  | cons p l ih =>
    obtain ⟨n, k⟩ := p
    have hp := h _ (.head _)
    exact ⟨hp.1, hp.2.1, hp.2.2.1, hp.2.2.2, ih fun q hq => h q (.tail _ hq)⟩
theorem Items_mk {ex : Bool} {G : Addr → Obj → Prop} {l : List (Int × T)} {e : T} : ∀ {vs ws : List Value}, Items ex G (T.mk l .nil) vs → Items ex G e ws → Items ex G (T.mk l e) (vs ++ ws) := by
  induction l with
  | nil =>
    intro vs ws h hw
    have h : vs = [] := h
    subst h
    exact hw
  | cons p l ih =>
    obtain ⟨n, k⟩ := p
    intro vs ws h hw
    obtain ⟨p, q, tk, nn, ks, rs, rfl, e2, e3, e4, e5⟩ := h
    exact ⟨p, q, tk, nn, ks, rs ++ ws, rfl, e2, e3, e4, ih e5 hw⟩
theorem mk_snoc {n : Int} {k : T} : ∀ {l : List (Int × T)}, T.mk (l ++ [(n, k)]) .nil = T.mk l (.fld n k .nil)
  | [] => rfl
  | (m, j) :: l => by show T.fld m j (T.mk (l ++ [(n, k)]) .nil) = T.fld m j (T.mk l (.fld n k .nil)); rw [mk_snoc]
theorem Items_snoc {ex : Bool} {G : Addr → Obj → Prop} {l : List (Int × T)} {n : Int} {k : T} {vs ks : List Value} {p q : Addr} {tk : Tok} {nn : Nat} (h : Items ex G (T.mk l .nil) vs) (e2 : G p { cls := .type "tuple", data := .seq #[.int n tk, .ref q] })
    (e3 : G q (W.listOf (List.toArray ks) nn)) (hk : Items ex G k ks) : Items ex G (T.mk (l ++ [(n, k)]) .nil) (vs ++ [.ref p]) := by
  rw [mk_snoc]
  exact Items_mk h ⟨p, q, tk, nn, ks, [], rfl, e2, e3, hk, rfl⟩
theorem siz_le : ∀ {u : T}, WF u → siz u ≤ (enc u).length
  | .nil, _ => Nat.zero_le _
  | .leaf i bs, h => by
    show 1 ≤ bs.length
    have := h.2
    cases bs with
    | nil => exact absurd rfl this
    | cons a b => simp
  | .fld n k r, h => by
    have h1 := siz_le h.2.2.2.1
    have h2 := siz_le h.2.2.2.2
    simp only [siz, enc, hdr, List.length_append, List.length_cons, List.length_nil]
    omega
theorem dep_le : ∀ {u : T}, dep u ≤ (enc u).length
  | .nil => Nat.zero_le _
  | .leaf i bs => Nat.zero_le _
  | .fld n k r => by
    have h1 := dep_le (u := k)
    have h2 := dep_le (u := r)
    simp only [dep, enc, hdr, List.length_append, List.length_cons, List.length_nil]
    omega
end Mine
end
section
open PySem PySem.W PyProof.Rows PySem.Calls PySem.Spec PySem.SeqAt
set_option maxRecDepth 100000
namespace Mine
section
variable {A : Around} {s : Shared}
theorem EqAt.of_refs' {l b : Addr} (h : RcAt A s (.ref l) (.ref b) true) : EqAt A s (.ref l) (.ref b) true := by
  by_cases e : l = b
  · subst e; exact EqAt.same _
  · exact EqAt.of_refs e h
theorem EqAt.ex_bytes {x dx : Addr} {b c : Array UInt8} {t u : Tok} (hu : A.units < cLine) (hD : s.heap.get? 108 = some oE) (LE : ∀ M, Looks M s.heap (typeLookup (.ref 108) "__eq__") (some (.builtin "bytes.__eq__")))
    (hx : s.heap.get? x = some (exObj dx b t)) (e : KBw.bInts b = KBw.bInts c) : EqAt A s (.ref x) (.bytes c u) true := fun prog w E Q hq => by
  have hr : (b.toList == c.toList) = true := by rw [ints_inj e]; simp
  unfold eqBool
  refine wpAny_holding ?_
  refine wpAny_ite_split (fun hab => absurd (eq_of_beq hab) (by intro q; cases q)) (fun _ => ?_)
  exact wpAny_bind (rc_eq_ex hD hx (LE _) hu (hr ▸ wpAny_truthy_bool hq))
theorem EqAt.ids {i : Option Int} {v v' : Value} (h : IdVal i v) (h' : IdVal i v') : EqAt A s v v' true := by
  cases i with
  | none =>
    have h : v = .none := h
    have h' : v' = .none := h'
    subst h h'
    exact EqAt.same _
  | some n =>
    obtain ⟨t, rfl⟩ := h
    obtain ⟨t', rfl⟩ := h'
    have := EqAt.int_int (A := A) (s := s) n t n t'
    rwa [beq_self_eq_true] at this
theorem EqAt.pair {p q : Addr} {v v' y y' : Value} (hu : A.units < cLine) (hp : s.heap.get? p = some { cls := .type "tuple", data := .seq #[v, y] }) (hq : s.heap.get? q = some { cls := .type "tuple", data := .seq #[v', y'] })
    (h1 : EqAt A.in1 s v v' true) (h2 : EqAt A.in1 s y y' true) : EqAt A s (.ref p) (.ref q) true := by
  refine EqAt.of_refs' ?_
  have := RcAt.tuples (A := A) (s := s) (e := fun _ => true) (l := p) (b := q) (items := #[v, y]) (items2 := #[v', y']) ⟨_, hp, rfl, 0, rfl⟩ ⟨_, hq, rfl, 0, rfl⟩ hu (fun j a b => by
    match j, a, b with
    | 0, _, _ => exact h1
    | 1, _, _ => exact h2
    | j + 2, a, _ => exact absurd a (by simp))
  exact this
theorem RcAt.told {p q : Addr} {n n' : Nat} {vs ws : List Value} (hu : A.units < cLine) (hp : s.heap.get? p = some (W.listOf (List.toArray vs) n)) (hq : s.heap.get? q = some (W.listOf (List.toArray ws) n')) (hl : vs.length = ws.length)
    (h : ∀ j (h1 : j < vs.length) (h2 : j < ws.length), EqAt A.in1 s vs[j] ws[j] true) : RcAt A s (.ref p) (.ref q) true := by
  have := RcAt.lists (A := A) (s := s) (e := fun _ => true) (l := p) (b := q) (items := List.toArray vs) (items2 := List.toArray ws) ⟨_, hp, rfl, n, rfl⟩ ⟨_, hq, rfl, n', rfl⟩ (by simpa using hl) hu (fun j a b => by
    simpa using h j (by simpa using a) (by simpa using b))
  have e : ((List.range (List.toArray vs).size).all fun _ => true) = true := List.all_eq_true.mpr fun _ _ => rfl
  rwa [e] at this
variable {G G' : Addr → Obj → Prop}
theorem eq_items (hD : s.heap.get? 108 = some oE) (LE : ∀ M, Looks M s.heap (typeLookup (.ref 108) "__eq__") (some (.builtin "bytes.__eq__"))) (hG : ∀ a o, G a o → s.heap.get? a = some o) (hG' : ∀ a o, G' a o → s.heap.get? a = some o) :
    ∀ (u : T) (A : Around) (vs ws : List Value), A.units + 2 * dep u + 4 < cLine → Items true G u vs → Items false G' u ws → vs.length = ws.length ∧ ∀ j (h1 : j < vs.length) (h2 : j < ws.length), EqAt A s vs[j] ws[j] true
  | .nil, A, vs, ws, _, h, h' => by
    have h : vs = [] := h
    have h' : ws = [] := h'
    subst h h'
    exact ⟨rfl, fun j a _ => absurd a (Nat.not_lt_zero _)⟩
  | .leaf i bs, A, vs, ws, hu, h, h' => by
    obtain ⟨p, v, lv, rfl, hp, hi, x, dx, b, t, rfl, hx, hb⟩ := h
    obtain ⟨p', v', lv', rfl, hp', hi', c, t', rfl, hc⟩ := h'
    refine ⟨rfl, fun j a b' => ?_⟩
    match j, a, b' with
    | 0, _, _ =>
      have hu0 : A.units < cLine := by omega
      have hu1 : A.in1.units < cLine := by show A.units + 1 < cLine; omega
      exact EqAt.pair hu0 (hG _ _ hp) (hG' _ _ hp') (EqAt.ids hi hi') (EqAt.ex_bytes hu1 hD LE (hG _ _ hx) (hb.trans hc.symm))
    | j + 1, a, _ => exact absurd a (by simp)
  | .fld n k r, A, vs, ws, hu, h, h' => by
    obtain ⟨p, q, tk, nn, ks, rs, rfl, hp, hq, hk, hr⟩ := h
    obtain ⟨p', q', tk', nn', ks', rs', rfl, hp', hq', hk', hr'⟩ := h'
    have hu0 : A.units < cLine := by omega
    have hu1 : A.in1.units < cLine := by show A.units + 1 < cLine; omega
    have d1 : dep k + 1 ≤ dep (.fld n k r) := Nat.le_max_left _ _
    have d2 : dep r ≤ dep (.fld n k r) := Nat.le_max_right _ _
    obtain ⟨l1, e1⟩ := eq_items hD LE hG hG' k A.in1.in1 ks ks' (by show A.units + 1 + 1 + 2 * dep k + 4 < cLine; omega) hk hk'
    obtain ⟨l2, e2⟩ := eq_items hD LE hG hG' r A rs rs' (by omega) hr hr'
    refine ⟨by simp [l2], fun j a b' => ?_⟩
    match j, a, b' with
    | 0, _, _ => exact EqAt.pair hu0 (hG _ _ hp) (hG' _ _ hp') (EqAt.ids (i := some n) ⟨tk, rfl⟩ ⟨tk', rfl⟩) (EqAt.of_refs' (RcAt.told hu1 (hG _ _ hq) (hG' _ _ hq') l1 e1))
    | j + 1, a, b' => exact e2 j (by simpa using a) (by simpa using b')
end
end Mine
end
section
open PySem PySem.W PyProof.Rows PySem.Calls PySem.Spec
namespace Mine
/-- an open level -/
structure Lev where
  c : Addr
  t : Addr
  nm : Value
  b : Array UInt8
  bt : Tok
  vs : List Value
  n1 : Nat
  n2 : Nat
  l : List (Int × T)
def Lev.ents (v : Lev) : List (Addr × Obj) := [(v.c, W.listOf #[v.nm, .ref v.t, .bytes v.b v.bt] v.n1), (v.t, W.listOf (List.toArray v.vs) v.n2)]
def refsOf (st : List Lev) : List Value := st.map fun v => .ref v.c
def lents (st : List Lev) : List (Addr × Obj) := st.flatMap Lev.ents
def pot (st : List Lev) : Nat := (st.map fun v => v.b.size + 11).sum
/-- a level's octets and its told list agree -/
def Lev.OK (done : List (Addr × Obj)) (v : Lev) : Prop := KBw.bInts v.b = enc (T.mk v.l .nil) ∧ (∀ p ∈ v.l, FOK p) ∧ Items false (fun a o => (a, o) ∈ done) (T.mk v.l .nil) v.vs ∧ v.vs.length = v.l.length
def Named (v : Lev) : Prop := ∃ n u, v.nm = .int n u ∧ 0 ≤ n ∧ n < 65536
theorem Lev.OK.mono {done done' : List (Addr × Obj)} {v : Lev} (h : v.OK done) (k : ∀ p ∈ done, p ∈ done') : v.OK done' :=
  ⟨h.1, h.2.1, h.2.2.1.mono fun _ _ q => k _ q, h.2.2.2⟩
theorem refs_append (a b : List Lev) : refsOf (a ++ b) = refsOf a ++ refsOf b := by simp [refsOf]
theorem lents_append (a b : List Lev) : lents (a ++ b) = lents a ++ lents b := by simp [lents]
theorem pot_append (a b : List Lev) : pot (a ++ b) = pot a + pot b := by simp [pot]
theorem endOK_len {i : Option Int} {ks : List Int} (h : EndOK i ks) : ks.length ≤ 7 := by
  cases i with
  | none => exact Nat.le_of_lt (Nat.lt_of_lt_of_le h (by decide))
  | some n =>
    obtain ⟨_, _, z, r, _, e, h4, _⟩ := h
    rw [e]; simp only [hdr, List.length_append, List.length_cons, List.length_nil]; omega
/-- what an end makes of a level's content -/
theorem end_told {done : List (Addr × Obj)} {v : Lev} {h' : Heap} {lo : Nat} {vs' : List Value} {ks' : List Int} (hv : v.OK done) (he : EndAdd h' lo v.vs vs' (KBw.bInts v.b) ks') :
    ∃ (e : T) (ad : List (Addr × Obj)), (∀ q ∈ ad, lo ≤ q.1 ∧ h'.get? q.1 = some q.2) ∧ WF (T.mk v.l e) ∧ ks' = enc (T.mk v.l e) ∧ Items false (fun a o => (a, o) ∈ ad ++ done) (T.mk v.l e) vs' ∧ ks'.length ≤ v.b.size + 7 := by
  obtain ⟨h1, h2, h3, h4⟩ := hv
  have hl : (KBw.bInts v.b).length = v.b.size := KBw.ints_length _
  rcases he with ⟨rfl, rfl⟩ | ⟨e, x, eb, et, i, rfl, hlo, hx, hid, hok, hne, rfl⟩
  · exact ⟨.nil, [], by simp, WF_mk h2 trivial, h1, by simpa using h3, by omega⟩
  · refine ⟨.leaf i (KBw.bInts eb), [(e, { cls := .type "tuple", data := .seq #[x, .bytes eb et] })], ?_, WF_mk h2 ⟨hok.leaf, hne⟩, ?_, ?_, ?_⟩
    · intro q hq
      rw [List.mem_singleton.mp hq]
      exact ⟨hlo, hx⟩
    · rw [enc_mk, ← h1]; rfl
    · exact Items_mk (h3.mono fun a o q => List.mem_append_right _ q) ⟨e, x, _, rfl, by simp, hid, eb, et, rfl, rfl⟩
    · rw [List.length_append, hl]
      have := endOK_len hok
      omega
end Mine
end
section
open PySem PySem.W PyProof.Rows PySem.Calls PySem.Spec
set_option maxRecDepth 100000
namespace Mine
def muts (lv : Addr) (st : List Lev) : List Addr := lv :: st.flatMap fun v => [v.c, v.t]
structure LS (g : Heap) (L : Addr) (h : Heap) (lv : Addr) (n0 : Nat) (st : List Lev) (done ex : List (Addr × Obj)) : Prop where
  news : News g L h ((lv, W.listOf (List.toArray (refsOf st)) n0) :: (lents st ++ (done ++ ex)))
  nd : (muts lv st).Nodup
  off : ∀ q ∈ done ++ ex, q.1 ∉ muts lv st
  ok : ∀ v ∈ st, v.OK done
  ap : ∀ p ∈ done, ∀ q ∈ ex, p.1 ≠ q.1
theorem mem_lents {st : List Lev} {v : Lev} (h : v ∈ st) : (v.c, W.listOf #[v.nm, .ref v.t, .bytes v.b v.bt] v.n1) ∈ lents st ∧ (v.t, W.listOf (List.toArray v.vs) v.n2) ∈ lents st :=
  ⟨List.mem_flatMap.mpr ⟨v, h, by simp [Lev.ents]⟩, List.mem_flatMap.mpr ⟨v, h, by simp [Lev.ents]⟩⟩
theorem lents_muts {st : List Lev} {lv : Addr} {q : Addr × Obj} (h : q ∈ lents st) : q.1 ∈ muts lv st := by
  obtain ⟨v, hv, hq⟩ := List.mem_flatMap.mp h
  refine List.mem_cons_of_mem _ (List.mem_flatMap.mpr ⟨v, hv, ?_⟩)
  simp only [Lev.ents, List.mem_cons, List.not_mem_nil, or_false] at hq
  rcases hq with rfl | rfl <;> simp
theorem lev_len {done : List (Addr × Obj)} {v : Lev} (h : v.OK done) : v.vs.length ≤ v.b.size := by
  rw [h.2.2.2, ← KBw.ints_length, h.1]
  generalize v.l = l
  induction l with
  | nil => exact Nat.zero_le _
  | cons p l ih =>
    obtain ⟨n, k⟩ := p
    simp only [T.mk, enc, hdr, List.length_append, List.length_cons, List.length_nil]
    omega
theorem pot_len (st : List Lev) : 11 * st.length ≤ pot st := by
  induction st with
  | nil => exact Nat.zero_le _
  | cons v st ih =>
    simp only [pot, List.map_cons, List.sum_cons, List.length_cons] at ih ⊢
    omega
end Mine
end
section
open PySem PySem.W PyProof.Rows PySem.Calls PySem.Spec
set_option maxRecDepth 100000
namespace Mine
theorem shut_turn {w : World} {mean : ExcName → Option Value} {mg mb : Str → Option Value} {dp un : Nat} {gd : Option (List Code)} {cn : Str} {cs : Scope} {a : Addr} {ccd : Value} {cl : List (Str × Addr)} {outer : List Env} {A₀ : Around} {base h₀ : Heap} {L : Addr} {m : Str → Option Value} {s : Shared} {Q E : Value → Shared → Prop}
  {q : Int} {tq : Tok} {lv : Addr} {n0 : Nat} {pre : List Lev} {pa to : Lev} {done ex : List (Addr × Obj)}
  (B : Below A₀ base outer h₀) (F : Fr h₀ L s.heap m) (X : (Mine.hd.heap_39 w.params).In h₀) (TT : Top Mine.hd.view_39 (looseW Mine.hd.view_39 [Str.ofString "_Extra"]) mean mg mb h₀) (hk : cs.kind = .function)
  (S : LS h₀ L s.heap lv n0 (pre ++ [pa, to]) done ex) (hto : Named to) (hp : pot (pre ++ [pa, to]) ≤ 400) (hd : dp + 8 < recursionLimit) (hun : un + 60 < cLine)
  (ret : ∀ p h' tk' n0' pa' ad, Fr h₀ L h' m → LS h₀ L h' lv n0' (pre ++ [pa']) (ad ++ done) ex → pa'.nm = pa.nm → pot (pre ++ [pa']) ≤ pot (pre ++ [pa, to]) → Q (.ref p) { s with heap := h', toks := tk' }) :
  wpAny (model PySem.Challenge.rw_kl0365_01.row.prog w) (ktrTop dp un gd cn cs L a ccd cl outer) (call (.ref 131) [.ref lv, .int q tq]) Q E s := by
  obtain ⟨N, nd, off, ok, ap⟩ := S
  obtain ⟨c, t, nm, b, bt, vs, n1, n2, l⟩ := to
  obtain ⟨pc, pt, pnm, pb, pbt, pvs, pn1, pn2, pl⟩ := pa
  obtain ⟨n, tn, rfl, hn0, hn1⟩ := hto
  have okt := ok _ (List.mem_append_right _ (.tail _ (.head _)))
  have okp := ok _ (List.mem_append_right _ (.head _))
  have et := mem_lents (st := pre ++ [⟨pc, pt, pnm, pb, pbt, pvs, pn1, pn2, pl⟩, ⟨c, t, .int n tn, b, bt, vs, n1, n2, l⟩]) (List.mem_append_right _ (.tail _ (.head _)))
  have ep := mem_lents (st := pre ++ [⟨pc, pt, pnm, pb, pbt, pvs, pn1, pn2, pl⟩, ⟨c, t, .int n tn, b, bt, vs, n1, n2, l⟩]) (List.mem_append_right _ (.head _))
  have N5 : News h₀ L s.heap [(lv, W.listOf (List.toArray ((refsOf pre ++ [.ref pc]) ++ [.ref c])) n0), (c, W.listOf #[.int n tn, .ref t, .bytes b bt] n1), (t, W.listOf (List.toArray vs) n2), (pc, W.listOf #[pnm, .ref pt, .bytes pb pbt] pn1), (pt, W.listOf (List.toArray pvs) pn2)] := by
    intro q hq
    simp only [List.mem_cons, List.not_mem_nil, or_false] at hq
    rcases hq with rfl | rfl | rfl | rfl | rfl
    · have := N _ (.head _)
      simpa [refsOf] using this
    · exact N _ (.tail _ (List.mem_append_left _ et.1))
    · exact N _ (.tail _ (List.mem_append_left _ et.2))
    · exact N _ (.tail _ (List.mem_append_left _ ep.1))
    · exact N _ (.tail _ (List.mem_append_left _ ep.2))
  have nd' := nd
  simp only [muts, List.flatMap_append, List.flatMap_cons, List.flatMap_nil, List.append_nil, List.nodup_cons, List.nodup_append, List.mem_append, List.mem_cons, List.not_mem_nil, or_false, not_or, List.cons_append, List.nil_append, List.nodup_nil, not_false_eq_true, and_true] at nd'
  obtain ⟨⟨m0, m1, m2, m3, m4⟩, ndp, ⟨⟨m5, m6, m7⟩, ⟨m8, m9⟩, m10⟩, mp⟩ := nd'
  have hpot : pot pre + (pb.size + 11) + (b.size + 11) ≤ 400 := by
    have := hp
    rw [pot_append] at this
    simp only [pot, List.map_cons, List.map_nil, List.sum_cons, List.sum_nil] at this ⊢
    omega
  have hlpre := pot_len pre
  have hvs := lev_len okt
  have hpvs := lev_len okp
  have hrl : (refsOf pre).length = pre.length := by simp [refsOf]
  dsimp only at hvs hpvs
  refine shut_parent B F X TT hk N5 (fun e => m3 e) (fun e => m4 e) (fun e => m10 e) (fun e => m1 e) (fun e => m2 e) (fun e => m6 e.symm) (fun e => m8 e.symm) (fun e => m7 e.symm) (fun e => m9 e.symm) (fun e => m5 e)
    hn0 hn1 (by rw [hrl]; omega) (by omega) (by omega) (by omega) (by omega) hd hun ?_
  intro p f vs' pb' b' tb' pbt' n0' n2' n3' n4' tn' h' tk' keep he ht hlv hpc hpb hpt hf hfl hpp hpl
  obtain ⟨e, ad, had, hwf, hb', hit, hlen⟩ := end_told (v := ⟨c, t, .int n tn, b, bt, vs, n1, n2, l⟩) okt he
  dsimp only at hwf hb' hit hlen
  have hLs : L < s.heap.objs.size := F.ns.lt
  have old5 : ∀ x o, s.heap.get? x = some o → x ∉ muts lv (pre ++ [⟨pc, pt, pnm, pb, pbt, pvs, pn1, pn2, pl⟩, ⟨c, t, .int n tn, b, bt, vs, n1, n2, l⟩]) → h'.get? x = some o := by
    intro x o ex hx
    simp only [muts, List.flatMap_append, List.flatMap_cons, List.flatMap_nil, List.append_nil, List.mem_append, List.mem_cons, List.not_mem_nil, or_false, not_or, List.cons_append, List.nil_append] at hx
    exact keep x o ex hx.1 hx.2.2.2.2.1 hx.2.2.2.2.2 hx.2.2.1 hx.2.2.2.1
  have fresh : ∀ x, s.heap.objs.size ≤ x → x ≠ L ∧ h₀.get? x = none := fun x hx => above_new F hx
  have F' : Fr h₀ L h' m := by
    have hne : ∀ x o, h₀.get? x = some o → h'.get? x = some o := by
      intro x o ex
      refine keep x o (F.keep x o ex) ?_ ?_ ?_ ?_ ?_ <;> intro q
      · have := (N5 _ (.head _)).2.2; rw [q] at ex; rw [ex] at this; cases this
      · have := (N5 _ (.tail _ (.head _))).2.2; rw [q] at ex; rw [ex] at this; cases this
      · have := (N5 _ (.tail _ (.tail _ (.head _)))).2.2; rw [q] at ex; rw [ex] at this; cases this
      · have := (N5 _ (.tail _ (.tail _ (.tail _ (.head _))))).2.2; rw [q] at ex; rw [ex] at this; cases this
      · have := (N5 _ (.tail _ (.tail _ (.tail _ (.tail _ (.head _)))))).2.2; rw [q] at ex; rw [ex] at this; cases this
    exact ⟨F.ns.at' fun o eo => keep L o eo (fun q => (N5 _ (.head _)).2.1 q.symm) (fun q => (N5 _ (.tail _ (.head _))).2.1 q.symm) (fun q => (N5 _ (.tail _ (.tail _ (.head _)))).2.1 q.symm)
      (fun q => (N5 _ (.tail _ (.tail _ (.tail _ (.head _))))).2.1 q.symm) (fun q => (N5 _ (.tail _ (.tail _ (.tail _ (.tail _ (.head _)))))).2.1 q.symm), hne, F.above⟩
  have hb'l : (KBw.bInts b').length ≤ b.size + 7 := hlen
  have hpbs : pb'.size = pb.size + (4 + (KBw.bInts b').length) := by
    rw [← KBw.ints_length, hpb]
    simp only [hdr, List.length_append, List.length_cons, List.length_nil, KBw.ints_length]
  refine ret p h' tk' n0' ⟨pc, pt, pnm, pb', pbt', pvs ++ [.ref f], n3', n4', pl ++ [(n, T.mk l e)]⟩ ((t, W.listOf (List.toArray vs') n2') :: (f, { cls := .type "tuple", data := .seq #[.int n tn', .ref t] }) :: ad) F' ⟨?_, ?_, ?_, ?_, ?_⟩ rfl ?_
  · intro q hq
    rcases List.mem_cons.mp hq with rfl | hq
    · exact ⟨by simpa [refsOf] using hlv, (N5 _ (.head _)).2⟩
    rcases List.mem_append.mp hq with hq | hq
    · rw [lents_append] at hq
      rcases List.mem_append.mp hq with hq | hq
      · have hN := N q (.tail _ (List.mem_append_left _ (by rw [lents_append]; exact List.mem_append_left _ hq)))
        have hm : q.1 ∈ pre.flatMap fun v => [v.c, v.t] := by
          have := lents_muts (lv := q.1 + 1) hq
          rcases List.mem_cons.mp this with h | h
          · exact absurd h (Nat.ne_of_lt (Nat.lt_succ_self _))
          · exact h
        refine ⟨keep _ _ hN.1 (fun e => m0 (e ▸ hm)) ?_ ?_ ?_ ?_, hN.2⟩
        · exact mp _ hm _ (.inr (.inr (.inl rfl)))
        · exact mp _ hm _ (.inr (.inr (.inr rfl)))
        · exact mp _ hm _ (.inl rfl)
        · exact mp _ hm _ (.inr (.inl rfl))
      · simp only [lents, List.flatMap_cons, List.flatMap_nil, List.append_nil, Lev.ents, List.mem_cons, List.not_mem_nil, or_false] at hq
        rcases hq with rfl | rfl
        · exact ⟨hpc, (N5 _ (.tail _ (.tail _ (.tail _ (.head _))))).2⟩
        · exact ⟨hpt, (N5 _ (.tail _ (.tail _ (.tail _ (.tail _ (.head _)))))).2⟩
    · rw [List.append_assoc] at hq
      rcases List.mem_append.mp hq with hq | hq
      · simp only [List.mem_cons] at hq
        rcases hq with rfl | rfl | hq
        · exact ⟨ht, (N5 _ (.tail _ (.tail _ (.head _)))).2⟩
        · exact ⟨hf, fresh f hfl⟩
        · exact ⟨(had q hq).2, fresh _ (had q hq).1⟩
      · have hN := N q (.tail _ (List.mem_append_right _ hq))
        exact ⟨old5 _ _ hN.1 (off q hq), hN.2⟩
  · simp only [muts, List.flatMap_append, List.flatMap_cons, List.flatMap_nil, List.append_nil, List.nodup_cons, List.nodup_append, List.mem_append, List.mem_cons, List.not_mem_nil, or_false, not_or, List.cons_append, List.nil_append, List.nodup_nil, not_false_eq_true, and_true]
    exact ⟨⟨m0, m1, m2⟩, ndp, m5, fun x hx y hy => mp x hx y (hy.elim .inl fun h => .inr (.inl h))⟩
  · have hmlt : ∀ x, x ∈ muts lv (pre ++ [⟨pc, pt, pnm, pb', pbt', pvs ++ [.ref f], n3', n4', pl ++ [(n, T.mk l e)]⟩]) → x < s.heap.objs.size ∧ x ∈ muts lv (pre ++ [⟨pc, pt, pnm, pb, pbt, pvs, pn1, pn2, pl⟩, ⟨c, t, .int n tn, b, bt, vs, n1, n2, l⟩]) ∧ x ≠ t := by
      intro x hx
      rcases List.mem_cons.mp hx with rfl | hx
      · exact ⟨Heap.lt_size (N5 _ (.head _)).1, .head _, m4⟩
      · rw [List.flatMap_append] at hx
        rcases List.mem_append.mp hx with hx | hx
        · refine ⟨?_, List.mem_cons_of_mem _ (by rw [List.flatMap_append]; exact List.mem_append_left _ hx), mp x hx t (.inr (.inr (.inr rfl)))⟩
          obtain ⟨v, hv, hvx⟩ := List.mem_flatMap.mp hx
          have hN := mem_lents (List.mem_append_left [⟨pc, pt, pnm, pb, pbt, pvs, pn1, pn2, pl⟩, ⟨c, t, .int n tn, b, bt, vs, n1, n2, l⟩] hv)
          simp only [List.mem_cons, List.not_mem_nil, or_false] at hvx
          rcases hvx with rfl | rfl
          · exact Heap.lt_size (N _ (.tail _ (List.mem_append_left _ hN.1))).1
          · exact Heap.lt_size (N _ (.tail _ (List.mem_append_left _ hN.2))).1
        · simp only [List.flatMap_cons, List.flatMap_nil, List.append_nil, List.mem_cons, List.not_mem_nil, or_false] at hx
          rcases hx with rfl | rfl
          · exact ⟨Heap.lt_size (N5 _ (.tail _ (.tail _ (.tail _ (.head _))))).1, by simp [muts], m7⟩
          · exact ⟨Heap.lt_size (N5 _ (.tail _ (.tail _ (.tail _ (.tail _ (.head _)))))).1, by simp [muts], m9⟩
    intro q hq hm
    obtain ⟨h1, h2, h3⟩ := hmlt _ hm
    rw [List.append_assoc] at hq
    rcases List.mem_append.mp hq with hq | hq
    · simp only [List.mem_cons] at hq
      rcases hq with rfl | rfl | hq
      · exact h3 rfl
      · exact absurd h1 (Nat.not_lt.mpr hfl)
      · exact absurd h1 (Nat.not_lt.mpr (had q hq).1)
    · exact off q hq h2
  · intro v hv
    rcases List.mem_append.mp hv with hv | hv
    · exact (ok v (List.mem_append_left _ hv)).mono fun _ h => List.mem_append_right _ h
    · rw [List.mem_singleton.mp hv]
      obtain ⟨o1, o2, o3, o4⟩ := okp
      refine ⟨?_, ?_, ?_, ?_⟩
      · show KBw.bInts pb' = _
        rw [hpb, enc_snoc, ← hb', o1]
      · intro x hx
        rcases List.mem_append.mp hx with hx | hx
        · exact o2 x hx
        · rw [List.mem_singleton.mp hx]
          exact ⟨hn0, hn1, by show (enc (T.mk l e)).length < 65536; rw [← hb']; omega, hwf⟩
      · exact Items_snoc (o3.mono fun _ _ h => List.mem_append_right _ h) (p := f) (q := t) (tk := tn') (nn := n2') (by simp) (by simp) (hit.mono fun a o h => by
          rcases List.mem_append.mp h with h | h
          · simp [h]
          · simp [h])
      · show (pvs ++ [_]).length = (pl ++ [_]).length
        rw [List.length_append, List.length_append]
        have o4 : pvs.length = pl.length := o4
        rw [o4]; rfl
  · intro x hx y hy e9
    have hy1 := (N y (.tail _ (List.mem_append_right _ (List.mem_append_right _ hy)))).1
    have hylt := Heap.lt_size hy1
    rcases List.mem_append.mp hx with hx | hx
    · simp only [List.mem_cons] at hx
      rcases hx with rfl | rfl | hx
      · exact off y (List.mem_append_right _ hy) (by rw [← e9]; simp [muts])
      · exact absurd (Nat.lt_of_le_of_lt (Nat.le_of_eq e9) hylt) (Nat.not_lt.mpr hfl)
      · exact absurd (Nat.lt_of_le_of_lt (Nat.le_of_eq e9) hylt) (Nat.not_lt.mpr (had x hx).1)
    · exact ap x hx y hy e9
  · rw [pot_append, pot_append]
    simp only [pot, List.map_cons, List.map_nil, List.sum_cons, List.sum_nil]
    rw [hpbs]
    omega
end Mine
end
section
open PySem PySem.W PyProof.Rows PySem.Calls PySem.Spec
set_option maxRecDepth 100000
namespace Mine
theorem last_turn {w : World} {mean : ExcName → Option Value} {mg mb : Str → Option Value} {dp un : Nat} {gd : Option (List Code)} {cn : Str} {cs : Scope} {a : Addr} {ccd : Value} {cl : List (Str × Addr)} {outer : List Env} {A₀ : Around} {base h₀ : Heap} {L : Addr} {m : Str → Option Value} {s : Shared} {Q E : Value → Shared → Prop}
  {q : Int} {tq : Tok} {lv : Addr} {n0 : Nat} {to : Lev} {done ex : List (Addr × Obj)}
  (B : Below A₀ base outer h₀) (F : Fr h₀ L s.heap m) (X : (Mine.hd.heap_39 w.params).In h₀) (TT : Top Mine.hd.view_39 (looseW Mine.hd.view_39 [Str.ofString "_Extra"]) mean mg mb h₀) (hk : cs.kind = .function)
  (S : LS h₀ L s.heap lv n0 [to] done ex) (hp : pot [to] ≤ 400) (hd : dp + 8 < recursionLimit) (hun : un + 60 < cLine)
  (ret : ∀ p b tb u vs n ad h' tk', h'.get? p = some { cls := .type "tuple", data := .seq #[.ref to.t, .bytes b tb] } → s.heap.objs.size ≤ p → h'.get? to.t = some (W.listOf (List.toArray vs) n) → (∀ q ∈ ad, s.heap.objs.size ≤ q.1 ∧ h'.get? q.1 = some q.2) →
    (∀ x o, h₀.get? x = some o → h'.get? x = some o) → (∀ q ∈ done, h'.get? q.1 = some q.2) → Items false (fun a o => (a, o) ∈ ad ++ done) u vs → KBw.bInts b = enc u → WF u → (enc u).length ≤ to.b.size + 7 → Q (.ref p) { s with heap := h', toks := tk' }) :
  wpAny (model PySem.Challenge.rw_kl0365_01.row.prog w) (ktrTop dp un gd cn cs L a ccd cl outer) (call (.ref 131) [.ref lv, .int q tq]) Q E s := by
  obtain ⟨N, nd, off, ok, ap⟩ := S
  obtain ⟨c, t, nm, b, bt, vs, n1, n2, l⟩ := to
  have okt := ok _ (.head _)
  have N3 : News h₀ L s.heap [(lv, W.listOf #[.ref c] n0), (c, W.listOf #[nm, .ref t, .bytes b bt] n1), (t, W.listOf (List.toArray vs) n2)] := by
    intro q hq
    simp only [List.mem_cons, List.not_mem_nil, or_false] at hq
    rcases hq with rfl | rfl | rfl
    · exact N _ (.head _)
    · exact N _ (.tail _ (List.mem_append_left _ (by simp [lents, Lev.ents])))
    · exact N _ (.tail _ (List.mem_append_left _ (by simp [lents, Lev.ents])))
  simp only [muts, List.flatMap_cons, List.flatMap_nil, List.append_nil, List.nodup_cons, List.mem_cons, List.not_mem_nil, or_false, not_or, List.nodup_nil, not_false_eq_true, and_true] at nd
  obtain ⟨⟨m1, m2⟩, m3⟩ := nd
  have hpot : b.size + 11 ≤ 400 := by simpa [pot] using hp
  have hvs := lev_len okt
  dsimp only at hvs
  refine shut_last B F X TT hk N3 (fun e => m1 e) (fun e => m2 e) (fun e => m3 e) (by omega) (by omega) hd hun ?_
  intro p vs' b' tb' n2' h' tk' keep he ht hpp hpl
  obtain ⟨e, ad, had, hwf, hb', hit, hlen⟩ := end_told (v := ⟨c, t, nm, b, bt, vs, n1, n2, l⟩) okt he
  refine ret p b' tb' _ vs' n2' ad h' tk' hpp hpl ht had ?_ ?_ hit hb' hwf (hb' ▸ hlen)
  · intro x o ex
    refine keep x o (F.keep x o ex) ?_ ?_ ?_ <;> intro q
    · have := (N3 _ (.head _)).2.2; rw [q] at ex; rw [ex] at this; cases this
    · have := (N3 _ (.tail _ (.head _))).2.2; rw [q] at ex; rw [ex] at this; cases this
    · have := (N3 _ (.tail _ (.tail _ (.head _)))).2.2; rw [q] at ex; rw [ex] at this; cases this
  · intro q hq
    have hN := N q (.tail _ (List.mem_append_right _ (List.mem_append_left _ hq)))
    have ho := off q (List.mem_append_left _ hq)
    simp only [muts, List.flatMap_cons, List.flatMap_nil, List.append_nil, List.mem_cons, List.not_mem_nil, or_false, not_or] at ho
    exact keep _ _ hN.1 ho.1 ho.2.1 ho.2.2
end Mine
end
section
open PySem PySem.W PyProof.Rows PySem.Calls PySem.Spec
namespace Mine
section
variable {prog : Program} {w : World} {A : Around} {E : Value → Shared → Prop} {s : Shared} {env : Env} {h₀ : Heap} {x : Str} {body : List Stmt} {Q : Flow → Shared → Prop}
def TurnPost (h₀ : Heap) (L : Addr) (own : List (Addr × Obj)) (J : (Str → Option Value) → List (Addr × Obj) → Prop) (s₁ : Shared) (f : Flow) (s' : Shared) : Prop :=
  f = .next ∧ ∃ h' tk' m₂ news₂, s' = { s₁ with heap := h', toks := tk' } ∧ Fr h₀ L h' m₂ ∧ News h₀ L h' (own ++ news₂) ∧ (∀ p ∈ news₂, ∀ q ∈ own, p.1 ≠ q.1) ∧ J m₂ news₂
theorem Iter_listV {l : Addr} {items : Array Value} {m : Str → Option Value} {news : List (Addr × Obj)} (hh : A.handled = none) (hl : h₀.IsList l items) (F : Fr h₀ env.locals s.heap m) (N : News h₀ env.locals s.heap news)
    (J : Nat → (Str → Option Value) → List (Addr × Obj) → Prop) (h0 : J 0 m news)
    (turn : ∀ i v m₁ news₁ s₁ own, items[i]? = some v → J i m₁ news₁ → (∀ p ∈ news₁, ∀ q ∈ own, p.1 ≠ q.1) →
      Fr h₀ env.locals s₁.heap (fun y => if y = x then some v else m₁ y) → News h₀ env.locals s₁.heap (own ++ news₁) →
      wpAny (model prog w) A (execs body env) (TurnPost h₀ env.locals own (J (i + 1)) s₁) E s₁)
    (done : ∀ h' tk m' news', Fr h₀ env.locals h' m' → News h₀ env.locals h' news' → J items.size m' news' → Q .next { s with heap := h', toks := tk }) :
    wpAny (model prog w) A (pyIter (.ref l)) (fun it s₂ => LoopAtV prog w A h₀ env x body Q E it s₂) E s := by
  have hls : s.heap.IsList l items := hl.at fun o e => F.keep _ o e
  have hlt : l < s.heap.objs.size := by obtain ⟨_, e, _⟩ := id hls; exact Heap.lt_size e
  have hne : l ≠ s.heap.objs.size := Nat.ne_of_lt hlt
  have hlL : l ≠ env.locals := by
    obtain ⟨o, e, _⟩ := id hl
    exact Nat.ne_of_lt (Nat.lt_of_lt_of_le (Heap.lt_size e) F.above)
  refine wpAny_pyIter_list hls ?_
  have W := Walks.list (prog := prog) (w := w) hh s.heap.objs.size l hne items
  refine LoopAtU.toV ⟨_, _, _, _, _, _, m, news, J, rfl, W, ?_, ?_, ?_, ⟨⟨_, Heap.get?_push_size _ rfl, rfl, rfl⟩, hls.at fun o e => Heap.get?_push_of_some _ e⟩, F.push _, (fun p hp => ⟨Heap.get?_push_of_some _ (N p hp).1, (N p hp).2⟩), h0, ?_, ?_⟩
  · intro hm
    rcases List.mem_cons.mp hm with e | hm
    · exact absurd F.ns.lt (e ▸ Nat.lt_irrefl _)
    · exact hlL (List.mem_singleton.mp hm).symm
  · intro b hb
    rw [List.mem_singleton.mp hb]
    exact Heap.get?_none_of_le (Nat.le_trans F.above (Nat.le_of_lt F.ns.lt))
  · intro p hp hI
    exact absurd (Heap.lt_size (N p hp).1) ((List.mem_singleton.mp hI) ▸ Nat.lt_irrefl _)
  · intro i v m₁ news₁ s₁ own hi hP hJ hoff hsub hget hall hst F₁ N₁
    have hI0 : h₀.get? s.heap.objs.size = none := Heap.get?_none_of_le (Nat.le_trans F.above (Nat.le_of_lt F.ns.lt))
    have apart : ∀ p : Addr × Obj, p.1 ≠ s.heap.objs.size → (h₀.get? p.1 = none) → ∀ q ∈ own, p.1 ≠ q.1 := by
      intro p hp hp0 q hq e
      rcases List.mem_cons.mp (hsub q hq) with h | h
      · exact hp (e.trans h)
      · obtain ⟨o, eo, _⟩ := id hl
        rw [e, List.mem_singleton.mp h, eo] at hp0
        cases hp0
    have hI : ∃ o, (s.heap.objs.size, o) ∈ own := by
      obtain ⟨o, eo, _⟩ := id hst.1
      exact ⟨o, hall _ (.head _) hI0 o eo⟩
    refine wpAny_mono (turn i v m₁ news₁ s₁ own hP hJ (fun p hp => apart p (fun e => hoff p hp (by rw [e]; exact .head _)) (N₁ p (List.mem_append_right _ hp)).2.2) F₁ N₁) (fun f s₃ h₃ => ?_) fun _ _ y => y
    obtain ⟨rfl, h', tk, m₂, news₂, rfl, F₂, N₂, ha, hJ₂⟩ := h₃
    refine LoopStepU.intro F₂ N₂ (fun p hp hm => ?_) hJ₂
    obtain ⟨o, ho⟩ := hI
    exact ha p hp _ ho (List.mem_singleton.mp hm)
  · intro h' tk m' news' F' N' _ hJ
    exact done h' tk m' news' F' N' hJ
end
end Mine
end
section
open PySem PySem.W PyProof.Rows PySem.Calls PySem.Spec
set_option maxRecDepth 100000
namespace Mine
theorem LS_add {g h : Heap} {L l t lv : Addr} {n0 : Nat} {n : Int} {tn bt : Tok} {st : List Lev} {done ex : List (Addr × Obj)}
    (N : News g L h ((l, W.listOf #[.int n tn, .ref t, .bytes #[] bt] 0) :: (t, W.listOf #[] 0) :: (lv, W.listOf ((List.toArray (refsOf st)).push (.ref l)) n0) :: (lents st ++ (done ++ ex))))
    (nd : (muts lv st).Nodup) (off : ∀ q ∈ done ++ ex, q.1 ∉ muts lv st) (ok : ∀ v ∈ st, v.OK done) (h1 : @LT.lt Nat _ t l) (h2 : ∀ x ∈ muts lv st, @LT.lt Nat _ x t) (h3 : ∀ q ∈ done ++ ex, @LT.lt Nat _ q.1 t) (ap : ∀ p ∈ done, ∀ q ∈ ex, p.1 ≠ q.1) :
    LS g L h lv n0 (st ++ [⟨l, t, .int n tn, #[], bt, [], 0, 0, []⟩]) done ex := by
  refine ⟨?_, ?_, ?_, ?_, ap⟩
  · intro q hq
    rcases List.mem_cons.mp hq with rfl | hq
    · have := N _ (.tail _ (.tail _ (.head _)))
      simpa [refsOf] using this
    · rw [lents_append] at hq
      rcases List.mem_append.mp hq with hq | hq
      · rcases List.mem_append.mp hq with hq | hq
        · exact N q (.tail _ (.tail _ (.tail _ (List.mem_append_left _ hq))))
        · simp only [lents, List.flatMap_cons, List.flatMap_nil, List.append_nil, Lev.ents, List.mem_cons, List.not_mem_nil, or_false] at hq
          rcases hq with rfl | rfl
          · exact N _ (.head _)
          · exact N _ (.tail _ (.head _))
      · exact N q (.tail _ (.tail _ (.tail _ (List.mem_append_right _ hq))))
  · have e : muts lv (st ++ [⟨l, t, .int n tn, #[], bt, [], 0, 0, []⟩]) = muts lv st ++ [l, t] := by simp [muts]
    rw [e, List.nodup_append]
    refine ⟨nd, ?_, fun x hx y hy => ?_⟩
    · simp only [List.nodup_cons, List.mem_singleton, List.not_mem_nil, not_false_eq_true, List.nodup_nil, and_true]
      exact fun e => Nat.ne_of_gt h1 e
    have := h2 x hx
    simp only [List.mem_cons, List.not_mem_nil, or_false] at hy
    rcases hy with rfl | rfl
    · exact Nat.ne_of_lt (Nat.lt_trans this h1)
    · exact Nat.ne_of_lt this
  · intro q hq hm
    have e : muts lv (st ++ [⟨l, t, .int n tn, #[], bt, [], 0, 0, []⟩]) = muts lv st ++ [l, t] := by simp [muts]
    rw [e] at hm
    have hlt := h3 q hq
    rcases List.mem_append.mp hm with hm | hm
    · exact off q hq hm
    · simp only [List.mem_cons, List.not_mem_nil, or_false] at hm
      rcases hm with h | h
      · exact absurd (Nat.lt_trans hlt h1) (h ▸ Nat.lt_irrefl _)
      · exact absurd hlt (h ▸ Nat.lt_irrefl _)
  · intro v hv
    rcases List.mem_append.mp hv with hv | hv
    · exact ok v hv
    · rw [List.mem_singleton.mp hv]
      exact ⟨rfl, by simp, rfl, rfl⟩
end Mine
end
section
open PySem PySem.W PyProof.Rows PySem.Calls PySem.Spec
set_option maxRecDepth 100000
namespace Mine
def WJ (lv na : Addr) (i : Nat) (m : Str → Option Value) (news : List (Addr × Obj)) : Prop :=
  ∃ n0 st done, st ≠ [] ∧ news = (lv, W.listOf (List.toArray (refsOf st)) n0) :: (lents st ++ done) ∧ m (Str.ofString "levels") = some (.ref lv) ∧ m (Str.ofString "numbers") = some (.ref na) ∧ (muts lv st).Nodup ∧
    (∀ q ∈ done, q.1 ∉ muts lv st) ∧ (∀ v ∈ st, v.OK done) ∧ (∀ v ∈ st.tail, Named v) ∧ pot st ≤ 11 * (i + 1)
theorem LS.turn {g h : Heap} {L lv na : Addr} {n0 i tk : Nat} {st : List Lev} {done own : List (Addr × Obj)} {m : Str → Option Value} {s₁ : Shared} (S : LS g L h lv n0 st done own) (F : Fr g L h m)
    (e1 : m (Str.ofString "levels") = some (.ref lv)) (e2 : m (Str.ofString "numbers") = some (.ref na)) (hst : st ≠ []) (nam : ∀ v ∈ st.tail, Named v) (hp : pot st ≤ 11 * (i + 1)) :
    TurnPost g L own (WJ lv na i) s₁ .next { s₁ with heap := h, toks := tk } := by
  refine ⟨rfl, h, tk, m, (lv, W.listOf (List.toArray (refsOf st)) n0) :: (lents st ++ done), rfl, F, ?_, ?_, n0, st, done, hst, rfl, e1, e2, S.nd, fun q hq => S.off q (List.mem_append_left _ hq), S.ok, nam, hp⟩
  · intro p hp
    refine S.news p ?_
    simp only [List.mem_cons, List.mem_append] at hp ⊢
    rcases hp with h | h | h | h <;> simp [h]
  · intro p hp q hq e
    rcases List.mem_cons.mp hp with rfl | hp
    · exact S.off q (List.mem_append_right _ hq) (by rw [← e]; exact .head _)
    rcases List.mem_append.mp hp with hp | hp
    · exact S.off q (List.mem_append_right _ hq) (e ▸ lents_muts hp)
    · exact S.ap p hp q hq e
end Mine
end
section
open PySem PySem.W PyProof.Rows PySem.Calls PySem.Spec
set_option maxRecDepth 100000
namespace Mine
theorem muts_lents {x lv : Addr} {st : List Lev} (h : x ∈ muts lv st) : x = lv ∨ ∃ o, (x, o) ∈ lents st := by
  rcases List.mem_cons.mp h with h | h
  · exact .inl h
  · obtain ⟨v, hv, hx⟩ := List.mem_flatMap.mp h
    simp only [List.mem_cons, List.not_mem_nil, or_false] at hx
    rcases hx with rfl | rfl
    · exact .inr ⟨_, (mem_lents hv).1⟩
    · exact .inr ⟨_, (mem_lents hv).2⟩
theorem off_all {lv : Addr} {o : Obj} {st : List Lev} {done own : List (Addr × Obj)} (off : ∀ q ∈ done, q.1 ∉ muts lv st) (hap : ∀ p ∈ (lv, o) :: (lents st ++ done), ∀ q ∈ own, p.1 ≠ q.1) : ∀ q ∈ done ++ own, q.1 ∉ muts lv st := by
  intro q hq hm
  rcases List.mem_append.mp hq with hq | hq
  · exact off q hq hm
  · rcases muts_lents hm with h | ⟨o', h⟩
    · exact hap _ (.head _) q hq h.symm
    · exact hap _ (.tail _ (List.mem_append_left _ h)) q hq rfl
theorem ap_all {lv : Addr} {o : Obj} {st : List Lev} {done own : List (Addr × Obj)} (hap : ∀ p ∈ (lv, o) :: (lents st ++ done), ∀ q ∈ own, p.1 ≠ q.1) : ∀ p ∈ done, ∀ q ∈ own, p.1 ≠ q.1 :=
  fun p hp => hap p (.tail _ (List.mem_append_right _ hp))
theorem LS_add' {g h : Heap} {L l t lv : Addr} {n0 : Nat} {n : Int} {tn bt : Tok} {o : Obj} {st : List Lev} {done own rest : List (Addr × Obj)} (hrest : lents st ++ (done ++ own) = rest)
    (N : News g L h ((l, W.listOf #[.int n tn, .ref t, .bytes #[] bt] 0) :: (t, W.listOf #[] 0) :: (lv, W.listOf ((List.toArray (refsOf st)).push (.ref l)) n0) :: rest))
    (nd : (muts lv st).Nodup) (off : ∀ q ∈ done, q.1 ∉ muts lv st) (ok : ∀ v ∈ st, v.OK done) (hap : ∀ p ∈ (lv, o) :: (lents st ++ done), ∀ q ∈ own, p.1 ≠ q.1) (l1 : @LT.lt Nat _ lv t ∧ AllLt t rest) (l2 : @LT.lt Nat _ t l) :
    LS g L h lv n0 (st ++ [⟨l, t, .int n tn, #[], bt, [], 0, 0, []⟩]) done own := by
  subst hrest
  have a := kst_ltOf l1.2
  refine LS_add N nd (off_all off hap) ok l2 ?_ (fun q hq => a q (List.mem_append_right _ hq)) (ap_all hap)
  intro x hx
  rcases muts_lents hx with rfl | ⟨o', h'⟩
  · exact l1.1
  · exact a _ (List.mem_append_left _ h')
theorem LS_same {g h : Heap} {L lv : Addr} {n0 : Nat} {o : Obj} {st : List Lev} {done own rest : List (Addr × Obj)} (hrest : lents st ++ (done ++ own) = rest)
    (N : News g L h ((lv, W.listOf (List.toArray (refsOf st)) n0) :: rest))
    (nd : (muts lv st).Nodup) (off : ∀ q ∈ done, q.1 ∉ muts lv st) (ok : ∀ v ∈ st, v.OK done) (hap : ∀ p ∈ (lv, o) :: (lents st ++ done), ∀ q ∈ own, p.1 ≠ q.1) : LS g L h lv n0 st done own := by
  subst hrest
  exact ⟨N, nd, off_all off hap, ok, ap_all hap⟩
theorem nam_add {st : List Lev} {v : Lev} (hst : st ≠ []) (nam : ∀ v ∈ st.tail, Named v) (hv : Named v) : ∀ v' ∈ (st ++ [v]).tail, Named v' := by
  cases st with
  | nil => exact absurd rfl hst
  | cons p st =>
    intro v' h
    rw [List.cons_append, List.tail_cons] at h
    rcases List.mem_append.mp h with h | h
    · exact nam v' h
    · rw [List.mem_singleton.mp h]; exact hv
theorem named_new {l t : Addr} {q : Int} {tn bt : Tok} : Named ⟨l, t, .int (q.fmod 65536) tn, #[], bt, [], 0, 0, []⟩ :=
  ⟨_, _, rfl, fmod_lo _ (by decide), fmod_hi _ (by decide)⟩
theorem two_of {st : List Lev} (h : 2 ≤ st.length) : ∃ pre pa to, st = pre ++ [pa, to] := by
  rcases List.eq_nil_or_concat st with rfl | ⟨l, to, rfl⟩
  · exact absurd h (by decide)
  · rcases List.eq_nil_or_concat l with rfl | ⟨l', pa, rfl⟩
    · simp at h
    · exact ⟨l', pa, to, by simp⟩
theorem shut_any {w : World} {mean : ExcName → Option Value} {mg mb : Str → Option Value} {dp un : Nat} {gd : Option (List Code)} {cn : Str} {cs : Scope} {a : Addr} {ccd : Value} {cl : List (Str × Addr)} {outer : List Env} {A₀ : Around} {base h₀ : Heap} {L : Addr} {m : Str → Option Value} {s : Shared} {Q E : Value → Shared → Prop}
  {q : Int} {tq : Tok} {lv : Addr} {n0 P : Nat} {st : List Lev} {done ex : List (Addr × Obj)}
  (B : Below A₀ base outer h₀) (F : Fr h₀ L s.heap m) (X : (Mine.hd.heap_39 w.params).In h₀) (TT : Top Mine.hd.view_39 (looseW Mine.hd.view_39 [Str.ofString "_Extra"]) mean mg mb h₀) (hk : cs.kind = .function)
  (S : LS h₀ L s.heap lv n0 st done ex) (h2 : 2 ≤ st.length) (nam : ∀ v ∈ st.tail, Named v) (hp : pot st ≤ P) (hP : P ≤ 400) (hd : dp + 8 < recursionLimit) (hun : un + 60 < cLine)
  (ret : ∀ p h' tk' n0' st' done', Fr h₀ L h' m → LS h₀ L h' lv n0' st' done' ex → st' ≠ [] → st'.length + 1 = st.length → (∀ v ∈ st'.tail, Named v) → pot st' ≤ P → Q (.ref p) { s with heap := h', toks := tk' }) :
  wpAny (model PySem.Challenge.rw_kl0365_01.row.prog w) (ktrTop dp un gd cn cs L a ccd cl outer) (call (.ref 131) [.ref lv, .int q tq]) Q E s := by
  obtain ⟨pre, pa, to, rfl⟩ := two_of h2
  have hto : Named to := nam to (by cases pre <;> simp)
  refine shut_turn B F X TT hk S hto (Nat.le_trans hp hP) hd hun (fun p h' tk' n0' pa' ad F' S' hnm hpo => ?_)
  refine ret p h' tk' n0' _ _ F' S' (by simp) (by simp) ?_ (Nat.le_trans hpo hp)
  cases pre with
  | nil => intro v hv; exact absurd hv (List.not_mem_nil)
  | cons p0 pre =>
    intro v hv
    rw [List.cons_append, List.tail_cons] at hv
    rcases List.mem_append.mp hv with h | h
    · exact nam v (by rw [List.cons_append, List.tail_cons]; exact List.mem_append_left _ h)
    · rw [List.mem_singleton.mp h]
      have := nam pa (by rw [List.cons_append, List.tail_cons]; simp)
      unfold Named at this ⊢
      rw [hnm]; exact this
theorem WJ_start {lv c t na : Addr} {bt : Tok} {n0 n1 n2 : Nat} {m : Str → Option Value} (d1 : @LT.lt Nat _ t c) (d2 : @LT.lt Nat _ c lv) (e1 : m (Str.ofString "levels") = some (.ref lv)) (e2 : m (Str.ofString "numbers") = some (.ref na)) :
    WJ lv na 0 m [(lv, W.listOf #[.ref c] n0), (c, W.listOf #[.none, .ref t, .bytes #[] bt] n1), (t, W.listOf #[] n2)] := by
  refine ⟨n0, [⟨c, t, .none, #[], bt, [], n1, n2, []⟩], [], by simp, rfl, e1, e2, ?_, by simp, ?_, by simp, by simp [pot]⟩
  · simp only [muts, List.flatMap_cons, List.flatMap_nil, List.append_nil, List.nodup_cons, List.mem_cons, List.not_mem_nil, or_false, not_or, List.nodup_nil, not_false_eq_true, and_true]
    exact ⟨⟨Nat.ne_of_gt d2, Nat.ne_of_gt (Nat.lt_trans d1 d2)⟩, Nat.ne_of_gt d1⟩
  · intro v hv
    rw [List.mem_singleton.mp hv]
    exact ⟨rfl, by simp, rfl, rfl⟩
theorem WJ_end {g h : Heap} {L lv na : Addr} {i : Nat} {m : Str → Option Value} {news : List (Addr × Obj)} (N : News g L h news) (J : WJ lv na i m news) :
    ∃ n0 st done, LS g L h lv n0 st done [] ∧ st ≠ [] ∧ m (Str.ofString "levels") = some (.ref lv) ∧ m (Str.ofString "numbers") = some (.ref na) ∧ (∀ v ∈ st.tail, Named v) ∧ pot st ≤ 11 * (i + 1) := by
  obtain ⟨n0, st, done, hst, rfl, e1, e2, nd, off, ok, nam, hp⟩ := J
  exact ⟨n0, st, done, ⟨by rw [List.append_nil]; exact N, nd, by rw [List.append_nil]; exact off, ok, by simp⟩, hst, e1, e2, nam, hp⟩
theorem pot_add (st : List Lev) {l t : Addr} {nm : Value} {bt : Tok} : pot (st ++ [⟨l, t, nm, #[], bt, [], 0, 0, []⟩]) = pot st + 11 := by
  rw [pot_append]; simp [pot]
end Mine
end
section
theorem Mine.quietC17 : True := by
  w_top off
  trivial
open PySem PySem.W PyProof.Rows PySem.Calls PySem.Spec
set_option maxRecDepth 100000
set_option maxHeartbeats 1200000
namespace Mine
local macro_rules | `(tactic| walk_at "exec While Compare") => `(tactic| (k_here; refine hold ?_))
local macro_rules | `(tactic| walk_at "exec For Name Name") => `(tactic| (k_here; refine hold ?_))
local macro_rules | `(tactic| walk_at "exec For Name") => `(tactic| (k_here; refine hold ?_))
local macro_rules | `(tactic| walk_at "exec For") => `(tactic| (k_here; refine hold ?_))
theorem Fr.two' {g h : Heap} {L : Addr} {m : Str → Option Value} {x y : Str} {v u : Value} (F : Fr g L h m) (e1 : m x = some v) (e2 : m y = some u) :
    Fr g L h (fun z => if z = x then some v else if z = y then some u else m z) := by
  have : (fun z => if z = x then some v else if z = y then some u else m z) = m := by
    funext z
    by_cases q : z = x
    · rw [if_pos q, q, e1]
    · rw [if_neg q]
      by_cases q' : z = y
      · rw [if_pos q', q', e2]
      · rw [if_neg q']
  rw [this]; exact F
theorem len_letter {prog : Program} {w : World} {A : Around} {E : Value → Shared → Prop} {s : Shared} {h₀ : Heap} {L l : Addr} {news : List (Addr × Obj)} {its : Array Value} {n : Nat} {Q : Value → Shared → Prop} (N : News h₀ L s.heap news) (hm : (l, W.listOf its n) ∈ news) (hz : its.size < 100000)
    (h : ∀ t k, Q (.int (its.size : Nat) t) { s with toks := k }) : wpAny (model prog w) A (call (.builtin "len") [.ref l]) Q E s :=
  len_list ⟨_, N.get hm, rfl, n, rfl⟩ (by omega) (h _ _)
local macro_rules | `(tactic| walk_at "call ref") => `(tactic| (k_here; (with_reducible show wpAny _ _ (call (Value.ref 131) _) _ _ _); refine hold ?_))
local macro_rules | `(tactic| walk_at "execs cons") => `(tactic| (k_here; (with_reducible refine wpAny_execs_cons ?_); (try dsimp only); (try (with_reducible refine gentk ?_; intro tk9))))
local macro_rules | `(tactic| walk_at "execs nil") => `(tactic| (k_here; with_reducible refine wpAny_execs_nil ?_))
local macro_rules | `(tactic| walk_at "ite") => `(tactic| first | with_reducible refine ite_ff' ?_ | with_reducible refine ite_tt' ?_)
local macro_rules | `(tactic| k_all) => `(tactic| assumption)
local macro_rules | `(tactic| walk_at "call builtin:len") => `(tactic| (k_here; (with_reducible show wpAny _ _ (call _ [Value.ref _]) _ _ _); (with_reducible rename News _ _ _ _ => oN); k_dflt (refine len_letter (its := ?its) (n := ?n) oN ?a ?b ?_; (case a => k_mem); (case b => assumption)); intro tL kL))
local macro_rules | `(tactic| walk_at "call builtin:sum") => `(tactic| (k_here; refine hold ?_))
def CJ (g : Heap) (L lv na : Addr) (s : Shared) (n : Nat) (s' : Shared) : Prop :=
  ∃ h tk m n0 st done, s' = { s with heap := h, toks := tk } ∧ Fr g L h m ∧ LS g L h lv n0 st done [] ∧ st ≠ [] ∧ m (Str.ofString "levels") = some (.ref lv) ∧ m (Str.ofString "numbers") = some (.ref na) ∧
    (∀ v ∈ st.tail, Named v) ∧ pot st ≤ 220 ∧ st.length = n
theorem written_spec {w : World} {mean : ExcName → Option Value} {mg mb : Str → Option Value} {dp un : Nat} {gd : Option (List Code)} {cn : Str} {cs : Scope} {a : Addr} {ccd : Value} {cl : List (Str × Addr)} {outer : List Env} {A₀ : Around} {base h₀ : Heap} {L : Addr} {m : Str → Option Value} {s : Shared} {Q E : Value → Shared → Prop}
  {na : Addr} {k : Nat} {vsn : List Value} {ns : List Int}
  (B : Below A₀ base outer h₀) (F : Fr h₀ L s.heap m) (XB : (Mine.hd.heap_39 w.params).In base) (TB : Top Mine.hd.view_39 (looseW Mine.hd.view_39 [Str.ofString "_Extra"]) mean mg mb base) (hk : cs.kind = .function)
  (hna : s.heap.get? na = some (W.listOf (List.toArray vsn) k)) (hi : IntsAre vsn ns) (hlen : ns.length ≤ 19) (hd : dp + 20 < recursionLimit) (hun : un + 100 < cLine)
  (ret : ∀ p t b tb u vs n (done : List (Addr × Obj)) h' tk', Grown s.heap h' → s.heap.get? p = none → s.heap.get? t = none → h'.get? p = some { cls := .type "tuple", data := .seq #[.ref t, .bytes b tb] } → h'.get? t = some (W.listOf (List.toArray vs) n) →
    (∀ q ∈ done, s.heap.get? q.1 = none ∧ h'.get? q.1 = some q.2) → Items false (fun a o => (a, o) ∈ done) u vs → KBw.bInts b = enc u → WF u → (enc u).length ≤ 300 → Q (.ref p) { s with heap := h', toks := tk' }) :
  wpAny (model PySem.Challenge.rw_kl0365_01.row.prog w) (ktrTop dp un gd cn cs L a ccd cl outer) (call (.ref 138) [.ref na]) Q E s := by
  revert XB; k_fill; intro XB
  have XS := (XB.keeps B.stays).keeps F.keep
  have TS := (TB.keeps B.stays).keeps F.keep
  have BS : Below (ktrTop dp un gd cn cs L a ccd cl outer) base (envX cn cs L a ccd cl :: outer) s.heap := by
    have := pushX B F (env := envX cn cs L a ccd cl) rfl hk
    exact ⟨rfl, this.stays, this.frames⟩
  refine wpAny_call (enterT XS TS.nolimit (by exact rfl) (by k_is) (show dp < recursionLimit from Nat.lt_of_le_of_lt (Nat.le_add_right _ _) hd) (BindsTo.of_eq rfl) (locs rfl) (fun h₁ F₁ N₁ => ?_))
  have hXT := And.intro XB TB
  clear F B XB TB
  (try dsimp only)
  k_steps
  (with_reducible rename Fr _ _ _ _ => FF)
  (with_reducible rename News _ _ _ _ => NN)
  rename_i l1' _ _ l2' _ _ _ l3' _ _ _ _
  refine Iter_listV rfl ⟨_, hna, rfl, k, rfl⟩ FF NN (WJ l3' na) ?_ ?_ ?_
  · rename _ < l3' ∧ _ < l3' => l9
    exact WJ_start (by assumption) l9.1 rfl rfl
  · intro i v m₁ news₁ s₁ own hv hJ hap F₁ N₁
    obtain ⟨n0, st, done, hst, rfl, e1, e2, nd, off, ok, nam, hpot⟩ := hJ
    generalize l3' = lv at *
    obtain ⟨x, tx, rfl, _⟩ := IntsAre.at (‹IntsAre vsn ns›) i v (by simpa using hv)
    have F2 := Fr.two' (x := Str.ofString "x") (y := Str.ofString "levels") F₁ (if_pos rfl) ((if_neg (by decide)).trans e1)
    have N2 : News s.heap s.heap.objs.size s₁.heap ((lv, W.listOf (List.toArray (refsOf st)) n0) :: (lents st ++ (done ++ own))) := News.sub N₁ (by
      intro p hp
      simp only [List.mem_cons, List.mem_append] at hp ⊢
      rcases hp with h | h | h | h <;> simp [h])
    have hil : i < vsn.length := by
      have := (Array.getElem?_eq_some_iff.mp hv).1
      simpa using this
    have hnl : vsn.length = ns.length := (‹IntsAre vsn ns›).length
    have hrl : (refsOf st).toArray.size < 100000 := by
      have := pot_len st
      simp only [refsOf, List.size_toArray, List.length_map]
      omega
    have hlvm : lv ∉ st.flatMap fun v => [v.c, v.t] := (List.nodup_cons.mp nd).1
    have hr9 : ∀ p ∈ lents st ++ (done ++ own), p.1 ≠ lv := by
      intro p hp e
      rcases List.mem_append.mp hp with hp | hp
      · obtain ⟨v, hv', hq⟩ := List.mem_flatMap.mp hp
        refine hlvm (e ▸ List.mem_flatMap.mpr ⟨v, hv', ?_⟩)
        simp only [Lev.ents, List.mem_cons, List.not_mem_nil, or_false] at hq
        rcases hq with rfl | rfl <;> simp
      · rcases List.mem_append.mp hp with hp | hp
        · exact off p hp (e ▸ List.mem_cons_self)
        · exact hap (lv, _) (.head _) p hp e.symm
    generalize hrest : lents st ++ (done ++ own) = rest at N2 hr9
    have hrz : (refsOf st).toArray.size ≤ sizeLine := by rw [sizeLine_eq]; omega
    clear F₁ N₁ FF NN
    have hpi : 11 * (i + 1 + 1) ≤ 400 := by omega
    have hd9 : dp + 1 + 8 < recursionLimit := by omega
    have hu9 : un + 3 + 60 < cLine := by omega
    have hp11 : pot st + 11 ≤ 11 * (i + 1 + 1) := by omega
    have hst1 : 1 ≤ st.length := List.length_pos_iff.mpr hst
    k_steps
    · (with_reducible rename Fr _ _ _ _ => F9)
      (with_reducible rename News _ _ _ (_ :: _ :: _) => N9)
      rename lv < _ ∧ AllLt _ _ => l1
      rename _ < _ ∧ _ ∧ AllLt _ _ => l2
      have S9 := LS_add' hrest N9 nd off ok hap l1 l2.1
      refine Held.go (shut_any BS F9 XS TS rfl S9 (by rw [List.length_append]; exact Nat.succ_le_succ hst1) (nam_add hst nam named_new) (by rw [pot_add]; exact hp11) hpi hd9 hu9 ?_)
      clear S9 F9 N9
      intro p9 h9 tk8 n9 st9 done9 F9 S9 hst9 hl9 nam9 hp9
      k_steps
      exact S9.turn F9 rfl e2 hst9 nam9 hp9
    · (with_reducible rename Fr _ _ _ _ => F9)
      (with_reducible rename News _ _ _ (_ :: _ :: _) => N9)
      rename lv < _ ∧ AllLt _ _ => l1
      rename _ < _ ∧ _ ∧ AllLt _ _ => l2
      have S9 := LS_add' hrest N9 nd off ok hap l1 l2.1
      exact S9.turn F9 rfl e2 (by simp) (nam_add hst nam named_new) (by rw [pot_add]; exact hp11)
    · (with_reducible rename Fr _ _ _ _ => F9)
      (with_reducible rename News _ _ _ (_ :: _ :: _) => N9)
      rename lv < _ ∧ AllLt _ _ => l1
      rename _ < _ ∧ _ ∧ AllLt _ _ => l2
      have S9 := LS_add' hrest N9 nd off ok hap l1 l2.1
      refine Held.go (shut_any BS F9 XS TS rfl S9 (by rw [List.length_append]; exact Nat.succ_le_succ hst1) (nam_add hst nam named_new) (by rw [pot_add]; exact hp11) hpi hd9 hu9 ?_)
      clear S9 F9 N9
      intro p9 h9 tk8 n9 st9 done9 F9 S9 hst9 hl9 nam9 hp9
      k_steps
      exact S9.turn F9 rfl e2 hst9 nam9 hp9
    · (with_reducible rename Fr _ _ _ _ => F9)
      (with_reducible rename News _ _ _ (_ :: _) => N9)
      rename ¬ (_ = (1 : Int)) => hn1
      have S9 := LS_same hrest N9 nd off ok hap
      refine Held.go (shut_any BS F9 XS TS rfl S9 ?_ nam (Nat.le_trans (Nat.le_add_right _ _) hp11) hpi hd9 hu9 ?_)
      · rw [refsOf, List.size_toArray, List.length_map] at hn1
        omega
      clear S9 F9 N9
      intro p9 h9 tk8 n9 st9 done9 F9 S9 hst9 hl9 nam9 hp9
      k_steps
      exact S9.turn F9 rfl e2 hst9 nam9 hp9
  · intro h9 tk9 m9 news9 F9 N9 hJ
    obtain ⟨n9, st9, done9, S9, hst9, e1, e2, nam9, hp9⟩ := WJ_end N9 hJ
    clear FF NN N9 hJ
    have hnl : vsn.length = ns.length := (‹IntsAre vsn ns›).length
    have hp9 : pot st9 ≤ 220 := by
      rw [List.size_toArray] at hp9
      omega
    have hd9 : dp + 1 + 8 < recursionLimit := by omega
    have hu9 : un + 3 + 60 < cLine := by omega
    have hL9 : s.heap.get? l3' = none := (S9.news _ (.head _)).2.2
    generalize l3' = lv at *
    k_steps
    refine Held.go (While_any (CJ s.heap s.heap.objs.size lv na s) (n₀ := st9.length) ⟨_, _, _, _, _, _, rfl, F9, S9, hst9, e1, e2, nam9, hp9, rfl⟩ ?_)
    clear S9 F9
    rintro n s₁ ⟨h, tk, m, n0, st, done, rfl, F1, S1, hst, e1, e2, nam, hp, hn⟩
    have F2 := Fr.two' F1 e1 e2
    have N2 := S1.news
    generalize hrest : lents st ++ (done ++ []) = rest at N2
    have hrl : (refsOf st).toArray.size < 100000 := by
      have := pot_len st
      simp only [refsOf, List.size_toArray, List.length_map]
      omega
    have hls : (refsOf st).toArray.size = st.length := by simp only [refsOf, List.size_toArray, List.length_map]
    clear F1
    k_steps
    · (with_reducible rename Fr _ _ _ _ => F9)
      (with_reducible rename News _ _ _ (_ :: _) => N9)
      rename (1 : Int) < _ => h19
      have h2 : 2 ≤ st.length := by omega
      refine Held.go (shut_any BS F9 XS TS rfl S1 h2 nam hp (by decide) hd9 hu9 ?_)
      clear S1 F9 N9
      intro p9 h9 tk8 n9 st9 done9 F9 S9 hst9 hl9 nam9 hp9
      k_steps
      exact ⟨rfl, st9.length, by omega, _, _, _, _, _, _, rfl, F9, S9, hst9, rfl, rfl, nam9, hp9, rfl⟩
    · rename ¬ ((1 : Int) < _) => h19
      have h1 : st.length = 1 := by
        have := List.length_pos_iff.mpr hst
        omega
      (with_reducible rename Fr _ _ _ _ => F9)
      (with_reducible rename News _ _ _ (_ :: _) => N9)
      refine Held.go (sumK rfl F9 N9 ⟨_, F9.keep _ _ hna, rfl, k, rfl⟩ (by assumption) ?_)
      clear F9 N9
      intro h9 tk8 t9 F9 N9
      k_steps
      obtain ⟨to, rfl⟩ := List.length_eq_one_iff.mp h1
      subst hrest
      have S9 : LS s.heap s.heap.objs.size h9 lv n0 [to] done [] := ⟨N9, S1.nd, S1.off, S1.ok, S1.ap⟩
      have hpt : pot [to] = to.b.size + 11 := by simp [pot]
      refine Held.go (last_turn BS F9 XS TS rfl S9 (Nat.le_trans hp (by decide)) hd9 hu9 ?_)
      intro p b tb u vs n ad h' tk' hpp hpl ht had hold hdn hit hb hwf hlen
      k_steps
      have lo : s.heap.objs.size ≤ h9.objs.size := Nat.le_trans F9.above (Nat.le_of_lt F9.ns.lt)
      refine ret p to.t b tb u vs n (ad ++ done) _ _ hold (Heap.get?_none_of_le (Nat.le_trans lo hpl)) (S9.news _ (.tail _ (List.mem_append_left _ (mem_lents (.head _)).2))).2.2 hpp ht ?_ hit hb hwf ?_
      · intro q hq
        rcases List.mem_append.mp hq with hq | hq
        · exact ⟨Heap.get?_none_of_le (Nat.le_trans lo (had q hq).1), (had q hq).2⟩
        · exact ⟨(S9.news _ (.tail _ (List.mem_append_right _ (List.mem_append_left _ hq)))).2.2, hdn q hq⟩
      · omega
end Mine
end
section
open PySem PySem.W PyProof.Rows PySem.Calls PySem.Spec
set_option maxRecDepth 100000
namespace Mine
open Builtin
theorem br_no_bytes : typeLookup (.type "range") "__bytes__" = pure none := by rw [typeLookup_type, builtinLookup_eq_fast]; kernel_rfl
theorem br_no_index : typeLookup (.type "range") "__index__" = pure none := by rw [typeLookup_type, builtinLookup_eq_fast]; kernel_rfl
theorem br_no_buffer : typeLookup (.type "range") "__buffer__" = pure none := by rw [typeLookup_type, builtinLookup_eq_fast]; kernel_rfl
theorem br_split : splitId "range.__len__" = some ("range", "__len__") := by decide +kernel
theorem br_sub : isSubtype (.type "range") (.type "range") = pure true := by rw [isSubtype_type]; kernel_rfl
section
variable {prog : Program} {w : World} {A : Around} {E : Value → Shared → Prop} {s : Shared}
def upTo (n : Nat) : List Int := rangeKs 0 n
theorem upTo_len (n : Nat) : (upTo n).length = n := by simp [upTo, rangeKs]
theorem upTo_at {n i : Nat} (h : i < n) : (upTo n)[i]? = some (i : Int) := by
  simp only [upTo, rangeKs, List.getElem?_map, List.getElem?_range h, Option.map_some]
  congr 1; omega
theorem upTo_in {n : Nat} (h : n ≤ 256) : KBa.In (upTo n) := by
  intro k hk
  simp only [upTo, rangeKs, List.mem_map, List.mem_range] at hk
  obtain ⟨i, hi, rfl⟩ := hk
  omega
theorem br_loop {R : Result → Shared → Prop} {I S : Addr} {n : Nat} (hh : A.handled = none) (hn : n ≤ 256) (hIS : I ≠ S) :
    ∀ (k i : Nat) (s : Shared), n - i = k → i ≤ n → IsRangeIter s.heap I (i : Int) ((n : Int) - i) 1 → s.heap.get? S = some { cls := .type "bytearray", data := .bytearray (byteArr ((upTo n).take i)) } →
      (∀ h' t k', (∀ b o, b ≠ I → b ≠ S → s.heap.get? b = some o → h'.get? b = some o) → R (.ok (.ret (.bytes (byteArr (upTo n)) t))) { s with heap := h', toks := k' }) →
      codeAny (model prog w) A (.builtin "bytes.__new__.loop" ⟨[.type "bytes", .ref I, .ref S], []⟩) R s := by
  intro k
  induction k with
  | zero =>
    intro i s hk hle hit hS hR
    have hin : i = n := by omega
    subst hin
    refine codeAny_builtin F.bm_entry_loop ?_
    rw [Around.under_plainId F.bm_plain_loop _]
    show wpAny _ A.in1 (pyNext (.ref I) >>= _) _ _ s
    refine wpAny_bind (wpAny_pyNext_range_end hh hit (by omega) fun h' he => ?_)
    have hS' : h'.get? S = some { cls := .type "bytearray", data := .bytearray (byteArr ((upTo i).take i)) } := he S _ (Ne.symm hIS) hS
    refine wpAny_bind ?_
    unfold Builtin.Bytes.payload Builtin.Bytes.payload?
    refine wpAny_bind (wpAny_bind (wpAny_load hS' ?_))
    refine wpAny_pure (wpAny_pure ?_)
    rw [List.take_of_length_le (by rw [upTo_len]; exact Nat.le_refl _)]
    refine wpAny_bind (wpAny_mkBytes ?_ (by rw [byteArr_size, upTo_len, sizeLine_eq]; omega))
    show wpAny _ _ (if (Value.type "bytes" == Value.type "bytes") = true then _ else _) _ _ _
    refine bm_if_true (by decide) ?_
    first
      | exact wpAny_pure (hR h' _ _ fun b o hb _ e => he b o hb e)
      | exact wpAny_bind (wpAny_pure (wpAny_pure (hR h' _ _ fun b o hb _ e => he b o hb e)))
  | succ k ih =>
    intro i s hk hle hit hS hR
    have hlt : i < n := by omega
    refine codeAny_builtin F.bm_entry_loop ?_
    rw [Around.under_plainId F.bm_plain_loop _]
    show wpAny _ A.in1 (pyNext (.ref I) >>= _) _ _ s
    refine wpAny_bind (wpAny_pyNext_range_item hit (by omega) fun h' hit' hs => ?_)
    have hS' : h'.get? S = some { cls := .type "bytearray", data := .bytearray (byteArr ((upTo n).take i)) } := (hs.2 S (Ne.symm hIS)).trans hS
    refine wpAny_bind (wpAny_holding (wpAny_of_eq (rfl : asIndex (.int (i : Int) _) = pure (i : Int)) ?_))
    refine wpAny_bind (wpAny_letGo ?_)
    refine bm_if_false (by simp only [Bool.or_eq_false_iff, decide_eq_false_iff_not]; omega) ?_
    refine wpAny_bind ?_
    show wpAny _ _ (updateBytearray S (·.push ((i : Int)).toNat.toUInt8)) _ _ _
    unfold updateBytearray
    refine wpAny_bind (wpAny_load hS' ?_)
    show wpAny _ _ (update S (Obj.mapBytearray (·.push ((i : Int)).toNat.toUInt8)) >>= fun _ => lookBehind S) _ _ _
    refine wpAny_bind (wpAny_update hS' ?_)
    have hS₂ : (h'.update S (Obj.mapBytearray (·.push ((i : Int)).toNat.toUInt8))).get? S = some { cls := .type "bytearray", data := .bytearray (byteArr ((upTo n).take (i + 1))) } := by
      rw [byteArr_take (upTo_at hlt)]
      exact Heap.get?_update_self (Obj.mapBytearray (·.push ((i : Int)).toNat.toUInt8)) hS' rfl
    refine wpAny_lookBehind hS₂ ?_ ?_
    · show (if (byteArr ((upTo n).take (i + 1))).size > sizeLine then some "bytearray:memory" else none) = none
      rw [if_neg]
      rw [byteArr_size, List.length_take, upTo_len, sizeLine_eq]
      omega
    · refine wpAny_pure ⟨plainId_quiet F.bm_plain_loop _, ih (i + 1) { s with heap := h'.update S (Obj.mapBytearray (·.push ((i : Int)).toNat.toUInt8)), toks := s.toks + 1 } (by omega) hlt ?_ hS₂ fun h3 t' k' hk3 => ?_⟩
      · have e1 : ((i + 1 : Nat) : Int) = (i : Int) + 1 := by omega
        have e2 : (n : Int) - ((i + 1 : Nat) : Int) = (n : Int) - i - 1 := by omega
        rw [e1] at e2 ⊢
        rw [e2]
        exact (Heap.get?_update_other _ _ (Ne.symm hIS)).trans hit'
      · exact hR h3 t' k' fun b o hbI hbS e => hk3 b o hbI hbS ((Heap.get?_update_other _ _ (Ne.symm hbS)).trans (hs.extBut b o hbI e))
theorem br_new {r : Addr} {n : Nat} {t u v : Tok} {Q : Value → Shared → Prop} (hh : A.handled = none) (hr : IsRange s.heap r 0 n 1 t u v) (hn : n ≤ 256)
    (hQ : ∀ h' t k, (∀ b o, s.heap.get? b = some o → h'.get? b = some o) → Q (.bytes (byteArr (upTo n)) t) { s with heap := h', toks := k }) :
    codeAny (model prog w) A (.call (.builtin "bytes.__new__") ⟨[.type "bytes", .ref r], []⟩) (wants Q E) s := by
  have hsz : Builtin.Range.rangeSize 0 n 1 = (n : Int) := by
    unfold Builtin.Range.rangeSize
    simp
    try omega
  have hsm : Builtin.Range.small 0 n 1 = true := by
    unfold Builtin.Range.small
    rw [hsz]
    unfold Builtin.Range.rangeFitsLong
    simp
    try omega
  refine codeAny_of_tree ?_
  show wpAny _ A.in1 (do checkBuiltinCall "bytes.__new__" ⟨[.type "bytes", .ref r], []⟩; again (.builtin "bytes.__new__" ⟨[.type "bytes", .ref r], []⟩)) _ _ s
  refine wpAny_bind (wpAny_of_eq (F.bm_newCall _) (wpAny_pure ⟨plainId_quiet F.bm_plain _, codeAny_builtin F.bm_entry ?_⟩))
  rw [Around.under_plainId F.bm_plain _]
  have hT : s.TypeIs (.ref r) "range" := ⟨_, hr, rfl⟩
  unfold Builtin.«bytes.__new__»
  refine wpAny_bind (wpAny_of_eq (a := true) rfl ?_)
  refine bm_if_false rfl ?_
  refine wpAny_bind (wpAny_of_eq F.bm_sub ?_)
  refine bm_if_false rfl ?_
  refine wpAny_bind (wpAny_of_eq (F.bm_bind _) ?_)
  refine wpAny_bind (wpAny_of_eq (a := ()) rfl ?_)
  refine wpAny_bind (wpAny_of_eq (a := ()) rfl ?_)
  refine bm_if_false rfl ?_
  refine wpAny_bind (wpAny_specialOf hT br_no_bytes ?_)
  refine wpAny_bind (wpAny_bind ?_)
  show wpAny _ _ (load r >>= _) _ _ _
  refine wpAny_bind (wpAny_load hr ?_)
  refine wpAny_pure (wpAny_pure ?_)
  refine bm_if_false rfl ?_
  refine wpAny_bind (wpAny_specialOf hT br_no_index ?_)
  refine bm_if_true rfl ?_
  first
    | show wpAny _ _ (Builtin.Bytes.buffer? "bytes.__new__" (.ref r) true >>= _) _ _ _
    | (refine wpAny_bind ?_; show wpAny _ _ (Builtin.Bytes.buffer? "bytes.__new__" (.ref r) true >>= _) _ _ _)
  refine wpAny_bind ?_
  unfold Builtin.Bytes.buffer?
  refine wpAny_bind (wpAny_specialOf hT br_no_buffer ?_)
  refine wpAny_bind (wpAny_specialOf hT br_no_buffer ?_)
  refine wpAny_pure ?_
  refine wpAny_bind (wpAny_tryCatch (wpAny_pyIter_range hr hsm ?_))
  have hr₁ : IsRange (s.heap.push { cls := .type "range_iterator", data := .fields #[rawInt 0, rawInt (Builtin.Range.rangeSize 0 n 1), rawInt 1] }) r 0 n 1 t u v := Heap.get?_push_of_some _ hr
  have hT₁ : ({ s with heap := s.heap.push { cls := .type "range_iterator", data := .fields #[rawInt 0, rawInt (Builtin.Range.rangeSize 0 n 1), rawInt 1] } } : Shared).TypeIs (.ref r) "range" := ⟨_, hr₁, rfl⟩
  refine wpAny_bind (wpAny_holding ?_)
  unfold Builtin.Bytes.lengthHint
  refine wpAny_bind (wpAny_specialOf hT₁ F.slot_range_len.lookup ?_)
  dsimp only
  rw [br_split]
  dsimp only
  refine wpAny_bind (wpAny_isInstance hT₁ br_sub ?_)
  refine bm_if_false rfl ?_
  refine bm_if_false (by decide +kernel) ?_
  refine bm_if_true rfl ?_
  refine wpAny_bind (wpAny_rule ?_)
  refine wpAny_bind (wpAny_attempt (call_len_range hr₁ hsz (by omega) ?_))
  refine wpAny_bind (m := asInt? _) (wpAny_pure ?_)
  refine bm_if_false (KBy.tooLong_not (by simp; omega)) ?_
  refine wpAny_pure ?_
  refine wpAny_bind ?_
  unfold Builtin.Bytes.newBytearray
  refine wpAny_newObj_type ?_ (Nat.zero_le _)
  have hI : IsRangeIter ((s.heap.push { cls := .type "range_iterator", data := .fields #[rawInt 0, rawInt (Builtin.Range.rangeSize 0 n 1), rawInt 1] }).push { cls := .type "bytearray", data := .bytearray #[] }) s.heap.objs.size ((0 : Nat) : Int) ((n : Int) - ((0 : Nat) : Int)) 1 := by
    show Heap.get? _ _ = _
    rw [Heap.get?_push_of_some _ (Heap.get?_push_size _ rfl), hsz]
    simp
  have hlt : r < s.heap.objs.size := Heap.lt_size hr
  have hsz2 : (s.heap.push { cls := .type "range_iterator", data := .fields #[rawInt 0, rawInt (Builtin.Range.rangeSize 0 n 1), rawInt 1] }).objs.size = s.heap.objs.size + 1 := Heap.size_push _ _
  have main := fun tk => br_loop (prog := prog) (w := w) (A := A) (R := wants Q E) (I := s.heap.objs.size) (S := (s.heap.push { cls := .type "range_iterator", data := .fields #[rawInt 0, rawInt (Builtin.Range.rangeSize 0 n 1), rawInt 1] }).objs.size) hh hn (by rw [hsz2]; exact Nat.ne_of_lt (Nat.lt_succ_self _))
    n 0 { s with heap := (s.heap.push { cls := .type "range_iterator", data := .fields #[rawInt 0, rawInt (Builtin.Range.rangeSize 0 n 1), rawInt 1] }).push { cls := .type "bytearray", data := .bytearray #[] }, toks := tk } rfl (Nat.zero_le _) hI (Heap.get?_push_size _ rfl)
    fun h' t k hk => hQ h' t k fun b o e => hk b o (Nat.ne_of_lt (Heap.lt_size e)) (by rw [hsz2]; exact Nat.ne_of_lt (Nat.lt_succ_of_lt (Heap.lt_size e))) (Heap.get?_push_of_some _ (Heap.get?_push_of_some _ e))
  first
    | exact wpAny_pure ⟨plainId_quiet F.bm_plain_loop _, main _⟩
    | exact wpAny_pure (wpAny_pure ⟨plainId_quiet F.bm_plain_loop _, main _⟩)
theorem call_bytes_range {r : Addr} {n : Nat} {t u v : Tok} {h₀ : Heap} {L : Addr} {m : Str → Option Value} {news : List (Addr × Obj)} {Q : Value → Shared → Prop} (hh : A.handled = none) (oF : Fr h₀ L s.heap m) (N : News h₀ L s.heap news) (hr : IsRange s.heap r 0 n 1 t u v) (hn : n ≤ 256)
    (hQ : ∀ h' b t k, Fr h₀ L h' m → News h₀ L h' news → KBw.bInts b = upTo n → Q (.bytes b t) { s with heap := h', toks := k }) : wpAny (model prog w) A (call (.type "bytes") [.ref r]) Q E s := by
  refine callType_codes (Q₁ := fun obj s₁ => s₁.TypeIs obj "bytes" ∧ Q obj s₁) F.bm_called (F.bm_typeCall _) F.entry_object_init
    (br_new hh hr hn fun h' t k hk => ⟨PySem.W.typeIs_bytes _ _ _, hQ h' _ t k (oF.keptAll hk) (N.grown hk) (KBa.ints_make (upTo_in hn))⟩) fun obj s₁ h₁ => ?_
  exact ⟨h₁.1, F.args_object_init_2 obj _, object_init_meets F.bm_called.init.lookup F.bm_called.made (by decide) prog w A.in1 _ s₁ ⟨h₁.1, rfl, h₁.2⟩⟩
theorem mul3 {b : Array UInt8} {t u : Tok} {Q : Value → Shared → Prop} (hb : KBw.bInts b = upTo 256)
    (h : ∀ d t' k ks, ks = upTo 256 ++ (upTo 256 ++ upTo 256) → ks.length = 768 → KBw.bInts d = ks → Q (.bytes d t') { s with toks := k }) : wpAny (model prog w) A (binaryOp .Mult (.bytes b t) (.int 3 u)) Q E s := by
  have hl : b.size = 256 := by rw [← KBw.ints_length, hb, upTo_len]
  obtain ⟨b⟩ := b
  have hl : b.length = 256 := hl
  refine bytes_mul_K (d := b ++ (b ++ b)) (by intro e; rw [e] at hl; cases hl) (by decide) (by decide) (by rw [hl]; decide) ?_ (fun t' k => h _ t' k _ rfl ?_ ?_)
  · show (List.replicate 3 b).flatten = _
    simp [List.replicate_succ]
  · rw [List.length_append, List.length_append, upTo_len]
  · rw [← hb]
    simp [KBw.bInts]
end
theorem wide_head : (upTo 256).take 4 = hdr 256 770 := by decide +kernel
theorem wide_ok {ks : List Int} {x : Int} (hk : ks = upTo 256 ++ (upTo 256 ++ upTo 256)) (hl : ks.length = 768) (hx0 : 0 ≤ x) (hx1 : x < 300) :
    LeafOK (some 256) (List.take (clipAt ks.length (256 + x)) ks) ∧ List.take (clipAt ks.length (256 + x)) ks ≠ [] ∧ (List.take (clipAt ks.length (256 + x)) ks).length ≤ 555 := by
  have h4 : ks.take 4 = hdr 256 770 := by
    rw [hk, List.take_append_of_le_length (by rw [upTo_len]; decide), wide_head]
  rw [take_clip (by omega)]
  obtain ⟨z, hz⟩ : ∃ z : Nat, (256 + x).toNat = 4 + z := ⟨(256 + x).toNat - 4, by omega⟩
  have hz2 : z ≤ 551 := by omega
  have e : List.take (256 + x).toNat ks = hdr 256 770 ++ List.take z (List.drop 4 ks) := by
    rw [hz, List.take_add, h4]
  have hlr : (List.take z (List.drop 4 ks)).length ≤ z := by rw [List.length_take]; omega
  rw [e]
  refine ⟨⟨by decide, by decide, 770, _, by decide, rfl, by omega⟩, by simp [hdr], ?_⟩
  rw [List.length_append]
  have : (hdr 256 770).length = 4 := rfl
  omega
end Mine
end
section
theorem Mine.quietL1 : True := by
  w_top off
  trivial
open PySem PySem.W PyProof.Rows PySem.Calls PySem.Spec
set_option maxRecDepth 100000
set_option maxHeartbeats 1200000
namespace Mine
theorem turned0 {g h h' : Heap} {L : Addr} {m : Str → Option Value} (F : Fr g L h m) (k : Kept [L] h h') : Fr g L h' m ∧ ∀ news, News g L h news → News g L h' news := by
  have gL := kts_self F
  refine ⟨⟨?_, ?_, F.above⟩, fun news N q hq => ⟨?_, (N q hq).2⟩⟩
  · obtain ⟨o, es, ep, ho, hd, r⟩ := F.ns
    obtain ⟨sl, e'⟩ := k.up ho
    exact ⟨_, es, ep, e', hd, r⟩
  · intro b o e
    refine k.other b o (F.keep b o e) fun q => ?_
    rw [List.mem_singleton.mp q, gL] at e; cases e
  · exact k.other _ _ (N q hq).1 fun z => (N q hq).2.1 (List.mem_singleton.mp z)
theorem News.gets {g h h' : Heap} {L : Addr} {m : Str → Option Value} {news add : List (Addr × Obj)} (F : Fr g L h m) (N : News g L h' news) (ha : ∀ q ∈ add, h.get? q.1 = none ∧ h'.get? q.1 = some q.2) : News g L h' (add ++ news) := fun q hq => by
  rcases List.mem_append.mp hq with hq | hq
  · obtain ⟨h1, h2⟩ := ha q hq
    refine ⟨h2, ?_, ?_⟩
    · intro e
      obtain ⟨o, _, _, ho, _⟩ := F.ns
      rw [e, ho] at h1; cases h1
    · cases e : g.get? q.1 with
      | none => rfl
      | some o => rw [F.keep _ _ e] at h1; cases h1
  · exact N q hq
theorem News.five {g h : Heap} {L : Addr} {a b c d e : Addr × Obj} {done : List (Addr × Obj)} (N : News g L h ([a, b] ++ (done ++ [c, d, e]))) : News g L h (a :: b :: c :: d :: e :: done) :=
  News.sub N (by
    intro q hq
    simp only [List.mem_cons, List.mem_append, List.not_mem_nil, or_false] at hq ⊢
    rcases hq with h | h | h | h | h | h <;> simp [h])
local macro_rules | `(tactic| walk_at "call type:bytes") => `(tactic| (k_here; (with_reducible show wpAny _ _ (call (Value.type "bytes") [Value.ref _]) _ _ _); (with_reducible rename Fr _ _ _ _ => oF); (with_reducible rename News _ _ _ _ => oN); k_dflt (refine call_bytes_range (n := 256) rfl oF oN (by assumption) (by decide) ?_); clear oF oN; intro h' b9 t' k' F' N' hb9))
local macro_rules | `(tactic| walk_at "binaryOp Mult bytes int") => `(tactic| (k_here; k_dflt (refine mul3 (by assumption) ?_); intro d9 t9 k9 ks9 hks9 hl9 hd9))
local macro_rules | `(tactic| k_all) => `(tactic| assumption)
local macro_rules | `(tactic| walk_at "call ref") => `(tactic| (k_here; refine hold ?_))
local macro_rules | `(tactic| k_inst) => `(tactic| (refine' inst_ex ?N ?h1 ?h2; (case N => k_asm); (case h1 => k_mem); (case h2 => k_mem)))
local macro_rules | `(tactic| walk_at "compareOp NotEq ref bytes") => `(tactic| (k_here; k_dflt (refine cmp_ne_ex (dx := ?dx) (b := ?b) (t := ?t) (r := ?r) ?c ?a ?d ?e ?f ?_; (case a => exact News.get (by assumption) (by k_mem)); (case c => exact Fr.keep (by assumption) _ _ ((by assumption : Frag.In (Mine.hd.heap_39 _) _) _ _ (K108 _))); (case d => refine looks_findIn (K := Mine.hd.heap_39 _) (Frag.In.keeps (by assumption) (Fr.keep (by assumption))) ?_; k_is); (case e => exact (by decide : callerA.units + 3 < cLine)); (case f => assumption))))
local macro_rules | `(tactic| walk_at "compareOp NotEq bytes bytes") => `(tactic| (k_here; refine ne_same (by assumption) ?_))
local macro_rules | `(tactic| walk_at "getAttr ref") => `(tactic| (k_here; (with_reducible show wpAny _ _ (getAttr (Value.ref _) (PySem.Str.ofString "id") _) _ _ _); k_dflt (refine' getid_ex ?k1 ?k2 ?k3 ?k4 ?k5 ?k6 ?k7 ?k8 ?k9 ?k10 ?k11 ?_; (case k1 => k_asm); (case k2 => k_asm); (case k3 => k_inst); (case k4 => exact rfl); (case k5 => k_is); (case k6 => k_is); (case k7 => k_is); (case k8 => k_is); (case k9 => k_is); (case k10 => k_get); (case k11 => k_handed); k_whole)))
local macro_rules | `(tactic| walk_at "binaryOp Add bytes bytes") => `(tactic| (k_here; k_dflt (refine add_bb ?a ?_; (case a => omega)); intro dA tA kA hcat))
theorem few_ints {vs : List Value} {l : List Int} (h : IntsAre vs (List.take 14 l ++ [4, 1028, 187, 12335, 1042])) : ∃ ns, IntsAre vs ns ∧ ns.length ≤ 19 := by
  refine ⟨_, h, ?_⟩
  rw [List.length_append, List.length_take]
  exact Nat.add_le_add (Nat.min_le_left _ _) (Nat.le_refl _)
theorem News.last {g h : Heap} {L : Addr} {a b1 b2 b3 b4 b5 c d1 d2 d3 : Addr × Obj} {doneR doneA : List (Addr × Obj)} (N : News g L h (doneR ++ (a :: b1 :: b2 :: b3 :: b4 :: b5 :: c :: d1 :: d2 :: d3 :: doneA))) : News g L h (a :: c :: (doneR ++ doneA)) :=
  News.sub N (by
    intro q hq
    simp only [List.mem_cons, List.mem_append] at hq ⊢
    rcases hq with h | h | h | h <;> simp [h])
theorem wide_len {n : Int} {wk : List Int} {u : T} (zW : wk.length ≤ 555) (hu : (enc u).length ≤ 300) : (enc (.fld n (.leaf (some 256) wk) u)).length < 1000000 := by
  simp only [enc, hdr, List.length_append, List.length_cons, List.length_nil]; omega
theorem wide_dep {n : Int} {wk : List Int} {u : T} (hu : (enc u).length ≤ 300) : dep (.fld n (.leaf (some 256) wk) u) ≤ 301 := by
  have := dep_le (u := u)
  simp only [dep]; omega
theorem wide_wf {n : Int} {wk : List Int} {u : T} (hn0 : 0 ≤ n) (hn1 : n < 65536) (zW : wk.length ≤ 555) (lW : LeafOK (some 256) wk) (nW : wk ≠ []) (hu : WF u) : WF (.fld n (.leaf (some 256) wk) u) :=
  ⟨hn0, hn1, Nat.lt_of_le_of_lt zW (by decide), ⟨lW, nW⟩, hu⟩
theorem wide_siz {n : Int} {wk : List Int} {u : T} (hn0 : 0 ≤ n) (hn1 : n < 65536) (zW : wk.length ≤ 555) (lW : LeafOK (some 256) wk) (nW : wk ≠ []) (hu : WF u) (hl : (enc u).length ≤ 300) : siz (.fld n (.leaf (some 256) wk) u) < 1000000 :=
  Nat.lt_of_le_of_lt (siz_le (wide_wf hn0 hn1 zW lW nW hu)) (wide_len zW hl)
theorem items_len {ex : Bool} {G : Addr → Obj → Prop} : ∀ {u : T} {vs : List Value}, Items ex G u vs → vs.length ≤ siz u
  | .nil, vs, h => by
    have h : vs = [] := h
    subst h; exact Nat.le_refl _
  | .leaf _ _, vs, h => by
    obtain ⟨p, v, lv, rfl, _⟩ := h
    exact Nat.le_refl _
  | .fld _ _ _, vs, h => by
    obtain ⟨p, q, tk, nn, ks, rs, rfl, _, _, _, e5⟩ := h
    have := items_len e5
    simp only [siz, List.length_cons]; omega
theorem items_wide {G : Addr → Obj → Prop} {n : Int} {wk : List Int} {u : T} {vs : List Value} {p q c : Addr} {tk tw t2 : Tok} {nn : Nat} {wb : Array UInt8} (h1 : G p { cls := .type "tuple", data := .seq #[.int n tk, .ref q] }) (h2 : G q (W.listOf #[.ref c] nn))
    (h3 : G c { cls := .type "tuple", data := .seq #[.int 256 t2, .bytes wb tw] }) (hw : KBw.bInts wb = wk) (hu : Items false G u vs) : Items false G (.fld n (.leaf (some 256) wk) u) ([.ref p] ++ vs) :=
  ⟨p, q, tk, nn, [.ref c], vs, rfl, h1, h2, ⟨c, _, _, rfl, h3, ⟨_, rfl⟩, _, _, rfl, hw⟩, hu⟩
theorem items_eqlen {ex ex' : Bool} {G G' : Addr → Obj → Prop} : ∀ {u : T} {vs ws : List Value}, Items ex G u vs → Items ex' G' u ws → vs.length = ws.length
  | .nil, vs, ws, h, h' => by
    have h : vs = [] := h
    have h' : ws = [] := h'
    rw [h, h']
  | .leaf _ _, vs, ws, h, h' => by
    obtain ⟨p, v, lv, rfl, _⟩ := h
    obtain ⟨p', v', lv', rfl, _⟩ := h'
    rfl
  | .fld _ _ _, vs, ws, h, h' => by
    obtain ⟨p, q, tk, nn, ks, rs, rfl, _, _, _, e5⟩ := h
    obtain ⟨p', q', tk', nn', ks', rs', rfl, _, _, _, e5'⟩ := h'
    rw [List.length_cons, List.length_cons, items_eqlen e5 e5']
theorem L1 : PySem.Challenge.rw_kl0365_01.Holds := by
  refine Mine.hd ?_
  w_strict (k_go0; (all_goals try k_fold); k_steps)
  rename Fr _ _ _ (fun y => if y = Str.ofString "numbers" then _ else _) => F9
  rename News _ _ _ (_ :: _ :: _ :: []) => N9
  rename IntsAre _ (List.take 14 _ ++ _) => hI9
  rename Frag.In (Mine.hd.heap_39 _) _ => KX9
  rename Top Mine.hd.view_39 _ _ _ _ _ => T9
  rename (List.take 14 _).length = _ => hC9
  refine Held.go ?_
  have hEx := few_ints hI9
  clear hI9
  obtain ⟨ns9, hI9, hl19⟩ := hEx
  k_dflt (refine written_spec (below_caller _) F9 KX9 T9 rfl (N9.get (.head _)) hI9 hl19 (by decide) (by decide) ?_)
  intro pA tA bA tbA uA vsA nA doneA hA tkA hgA hpA htA hppA htoldA hdnA hitA hbA hwfA hlenA
  have N8 := News.gets F9 (News.gets F9 (N9.grown hgA) hdnA) (add := [(pA, _), (tA, _)]) (by
    intro q hq
    simp only [List.mem_cons, List.not_mem_nil, or_false] at hq
    rcases hq with rfl | rfl
    · exact ⟨hpA, hppA⟩
    · exact ⟨htA, htoldA⟩)
  have F8 := F9.keptAll hgA
  have N7 := News.five N8
  clear F9 N9 N8
  have hlA : bA.size ≤ 300 := by rw [← KBw.ints_length, hbA]; exact hlenA
  k_steps
  · exact envX (Str.ofString "law") { kind := .function, names := [], isGenerator := false, isCoroutine := false } 0 0 .none []
  (with_reducible rename Fr _ _ _ _ => F1)
  (with_reducible rename News _ _ _ _ => N1)
  refine Held.go (call_meth N1 (.head _) (one_spec (ks := []) (below_caller _) F1 KX9 T9 rfl rfl (by decide) (by decide) (fun p x dx t' hs tn u9 r pb v h' tk' k9 l2 l3 l4 hdx hx hp out => ?_)))
  obtain ⟨rfl, hpb, hrb⟩ := out_none out (by decide)
  obtain ⟨F2, N2⟩ := turned0 F1 k9
  have N3 := News.put F1 (News.put F1 (News.put F1 (N2 _ N1) l2 hdx) (by rw [l3]; exact Nat.le_succ_of_le l2) hx) (Nat.le_trans l2 (by rw [l3] at l4; exact Nat.le_of_lt (Nat.lt_of_succ_lt l4))) hp
  have hpz : pb.size ≤ 1000000 := by rw [← KBw.ints_length, hpb]; decide
  have hnp : (pb.toList != (#[] : Array UInt8).toList) = false := by
    have : pb.toList = [] := ints_inj (c := #[]) hpb
    rw [this]; rfl
  have hrb : KBw.bInts r = KBw.bInts #[] := hrb
  clear F1 N1 N2 k9 out l2 l3 l4 hdx hx hp
  k_steps
  (with_reducible rename Fr _ _ _ _ => F4)
  (with_reducible rename News _ _ _ _ => N4)
  rename _ = upTo 256 ++ _ => hks
  rename List.length _ = 768 => hkl
  rename KBw.bInts (KBy.picked _ _ _) = _ => hW
  obtain ⟨lW, nW, zW⟩ := wide_ok hks hkl (fmod_lo (List.sum ns9) (by decide : (0 : Int) < 300)) (fmod_hi _ (by decide))
  rw [← hW] at lW nW zW
  generalize hWW : KBw.bInts (KBy.picked _ _ _) = wk at hW lW nW zW
  clear hW hks hkl
  have hn0 := fmod_lo (List.sum ns9) (by decide : (0 : Int) < 65536)
  have hn1 := fmod_hi (List.sum ns9) (by decide : (0 : Int) < 65536)
  refine Held.go (field_spec (ks := wk) (below_caller _) F4 KX9 N4 T9 rfl hn0 hn1 hWW (Nat.lt_of_le_of_lt zW (by decide)) (by decide) ?_)
  clear F4 N4
  intro cF tcF hF tkF F4 N4 hcF
  have hcs : cF.size ≤ 1000 := by
    rw [← KBw.ints_length, hcF, List.length_append]
    have : (hdr ((List.sum ns9).fmod 65536) wk.length).length = 4 := rfl
    omega
  k_steps
  (with_reducible rename Fr _ _ _ _ => F5)
  (with_reducible rename News _ _ _ _ => N5)
  rename KBw.bInts _ = KBw.bInts cF ++ _ => hcat
  refine Held.go (read_ok 301 (u := .fld ((List.sum ns9).fmod 65536) (.leaf (some 256) wk) uA) (below_caller _) F5 KX9 T9 rfl (by rw [hcat, hcF, hbA, List.append_assoc]; rfl) (wide_wf hn0 hn1 zW lW nW hwfA) (wide_len zW hlenA) (wide_dep hlenA) (by decide) (by decide) (wide_siz hn0 hn1 zW lW nW hwfA hlenA) ?_)
  intro pR nR vsR doneR hR tkR kR loR hpR hdR hitR
  obtain ⟨F6, N6⟩ := turned0 F5 kR
  have N7 := News.last (News.puts F6 F5.ns.lt (News.put F5 (N6 _ N5) loR hpR) (fun q hq => ⟨Nat.le_trans loR (Nat.le_of_lt (hdR q hq).1), (hdR q hq).2⟩))
  clear F5 N5 N6 kR loR hpR hdR
  k_steps
  (with_reducible rename Fr _ _ _ _ => F8)
  (with_reducible rename News _ _ _ _ => N8)
  have hvA : vsA.length ≤ 300 := Nat.le_trans (items_len hitA) (Nat.le_trans (siz_le hwfA) hlenA)
  refine add_lists (vs := [.ref _]) (ws := vsA) F8 N8 ⟨_, N8.get (.head _), rfl, _, rfl⟩ ⟨_, N8.get (.tail _ (.tail _ (.tail _ (.tail _ (.tail _ (.head _)))))), rfl, _, rfl⟩ (fun h9 F9 N9 => ?_) (by rw [sizeLine_eq]; simp only [List.length_cons, List.length_nil]; omega)
  have hD9 := F9.keep _ _ (KX9 _ _ (K108 _))
  have hLE : ∀ M, Looks M h9 (typeLookup (.ref 108) "__eq__") (some (.builtin "bytes.__eq__")) := fun M => by
    refine looks_findIn (K := Mine.hd.heap_39 _) (KX9.keeps F9.keep) ?_
    k_is
  have hitR' := hitR.mono (G' := fun a o => h9.get? a = some o) (fun a o e => N9.get (.tail _ (.tail _ (.tail _ (.tail _ (.tail _ (.tail _ (.tail _ (List.mem_append_left _ e)))))))))
  have hitA' := hitA.mono (G' := fun a o => h9.get? a = some o) (fun a o e => N9.get (.tail _ (.tail _ (.tail _ (.tail _ (.tail _ (.tail _ (.tail _ (List.mem_append_right _ e)))))))))
  have hitW := items_wide (n := (List.sum ns9).fmod 65536) (G := fun a o => h9.get? a = some o) (N9.get (.tail _ (.tail _ (.head _)))) (N9.get (.tail _ (.tail _ (.tail _ (.head _))))) (N9.get (.tail _ (.tail _ (.tail _ (.tail _ (.head _)))))) hWW hitA'
  have hdep := wide_dep (n := (List.sum ns9).fmod 65536) (wk := wk) hlenA
  have hU : callerA.units + 3 + 1 + 2 * dep (.fld ((List.sum ns9).fmod 65536) (.leaf (some 256) wk) uA) + 4 < cLine := by
    have e1 : callerA.units = 4 := rfl
    rw [PyProof.Rows.cLine_is, e1]; omega
  have hp9 := N9.get (.tail _ (.tail _ (.tail _ (.tail _ (.tail _ (.head _))))))
  have hq9 := N9.get (.head _)
  refine cmp_ofEq (RcAt.told (by decide +kernel : callerA.units + 3 < cLine) hp9 hq9 ?hl ?hh _ _ _ _ ?fin)
  case hl => exact items_eqlen hitR' hitW
  case hh => exact (eq_items hD9 hLE (fun _ _ e => e) (fun _ _ e => e) _ _ _ _ hU hitR' hitW).2
  case fin => k_steps
end Mine
end
theorem PySem.Challenge.cw_kl0365_01_holds : PySem.Challenge.rw_kl0365_01.Holds :=
  Mine.L1
