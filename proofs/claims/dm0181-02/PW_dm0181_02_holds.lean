import PyProof.Rows.All
import Wide.All
import OpenK.AllK
import Wide.FinOn
import PySem.Challenge.RW_dm0181_02
open PySem PySem.W PyProof.Rows PySem.Calls
set_option Elab.async false
set_option maxRecDepth 100000
set_option maxHeartbeats 8000000
namespace Mine
-- B0
section
open PySem.Builtin.Int (intBits)
def byteAt (n : Int) : UInt8 := UInt8.ofNat (n % 256).toNat
def pack (n : Int) : Array UInt8 := #[byteAt (n / 16777216), byteAt (n / 65536), byteAt (n / 256), byteAt n]

theorem pack_low {x : Int} (h0 : 0 ≤ x) (h1 : x < 4294967296) : (List.reverse (KTBy.low x 4)).toArray = pack x := by
  have e := KTBy.low_ints (x := x) (n := 4) h0 (by simpa using h1)
  have hl := KTBy.low_length x 4
  match hq : KTBy.low x 4, hl with
  | [a, b, c, d], _ =>
    rw [hq] at e
    simp only [List.map_cons, List.map_nil] at e
    have e' : [(a.toNat : Int), (b.toNat : Int), (c.toNat : Int), (d.toNat : Int)] = [x % 256, x / 256 % 256, x / 65536 % 256, x / 16777216 % 256] := by
      rw [e]; simp [List.range, List.range.loop]
    simp only [List.cons.injEq, and_true] at e'
    obtain ⟨e1, e2, e3, e4⟩ := e'
    have bk : ∀ (u : UInt8) (y : Int), (u.toNat : Int) = y % 256 → u = byteAt y := by
      intro u y hy
      unfold byteAt
      rw [← hy, Int.toNat_natCast]
      simp
    unfold pack
    rw [← bk a x e1, ← bk b _ e2, ← bk c _ e3, ← bk d _ e4]
    rfl
theorem tb_args (a b : Value) : argsOk "int.to_bytes" ⟨[a, b], []⟩ := by unfold argsOk; kernel_rfl
section
variable {prog : Program} {w : World} {A : Around} {E : Value → Shared → Prop} {s : Shared} {x : Int} {t u : Tok}
theorem tb_ok {Q : Value → Shared → Prop} (h0 : 0 ≤ x) (h1 : x < 4294967296) (h : ∀ t' k', Q (.bytes (pack x) t') { s with toks := k' }) :
    wpAny (model prog w) A (call (.builtin "int.to_bytes") [.int x t, .int 4 u]) Q E s := by
  refine wpAny_call_entry KTBy.slot (typeIs_int s x t) KTBy.entry ?_ (tb_args _ _)
  have hb : intBits x ≤ 8 * 4 := KTBy.bits_le (B := 4294967296) (k := 4) (by decide) h0 h1
  show wpAny _ _ (Builtin.Int.intOfSelf (.int x t) >>= fun y => _) _ _ s
  refine wpAny_bind (wpAny_of_eq (a := x) rfl ?_)
  show wpAny _ _ (Builtin.Int.intBindNamed "to_bytes" ["length", "byteorder", "signed"] 0 2 [.int 4 u] [] >>= fun l => _) _ _ s
  refine wpAny_bind (wpAny_of_eq (a := [some (.int 4 u), none, none]) (by kernel_rfl) ?_)
  show wpAny _ _ (Builtin.Int.intIndex "int.to_bytes" (.int 4 u) >>= fun n => _) _ _ s
  refine wpAny_bind (wpAny_of_eq (a := (4 : Int)) rfl ?_)
  refine KTBy.if_not (by decide) ?_
  refine wpAny_bind (wpAny_of_eq (a := PySem.Str.ofString "big") (by kernel_rfl) ?_)
  refine wpAny_bind (wpAny_of_eq (a := false) rfl ?_)
  refine wpAny_bind (wpAny_of_eq (a := false) (by kernel_rfl) ?_)
  refine wpAny_ite_false (by decide) ?_
  refine wpAny_ite_false (by decide) ?_
  refine wpAny_ite_false (decide_eq_false (by rw [sizeLine_eq]; omega)) ?_
  refine KTBy.if_not (by show (decide (x < 0) && !false) = false; rw [decide_eq_false (show ¬ x < 0 by omega)]; rfl) ?_
  refine KTBy.if_not (by show (_ && decide ((intBits x : Int) > 8 * 4)) = false; rw [decide_eq_false (show ¬ ((intBits x : Int) > 8 * 4) by omega), Bool.and_false]) ?_
  refine wpAny_bind (wpAny_mkBytes (wpAny_pure ⟨_, rfl, ?_⟩) (by show (List.reverse (KTBy.low x 4)).length ≤ sizeLine; rw [List.length_reverse, KTBy.low_length, sizeLine_eq]; omega))
  have e := pack_low h0 h1
  show Q (.bytes (List.reverse (KTBy.low x 4)).toArray _) _
  rw [e]
  exact h _ _
theorem tb_over {Q : Value → Shared → Prop} (hx : x < 0 ∨ 4294967296 ≤ x) (hh : A.handled = none) (h : ∀ h' tk e, Heap.NewExc s.heap h' e "OverflowError" → E (.ref e) { s with heap := h', toks := tk }) :
    wpAny (model prog w) A (call (.builtin "int.to_bytes") [.int x t, .int 4 u]) Q E s := by
  refine wpAny_call_entry KTBy.slot (typeIs_int s x t) KTBy.entry ?_ (tb_args _ _)
  show wpAny _ _ (Builtin.Int.intOfSelf (.int x t) >>= fun y => _) _ _ s
  refine wpAny_bind (wpAny_of_eq (a := x) rfl ?_)
  show wpAny _ _ (Builtin.Int.intBindNamed "to_bytes" ["length", "byteorder", "signed"] 0 2 [.int 4 u] [] >>= fun l => _) _ _ s
  refine wpAny_bind (wpAny_of_eq (a := [some (.int 4 u), none, none]) (by kernel_rfl) ?_)
  show wpAny _ _ (Builtin.Int.intIndex "int.to_bytes" (.int 4 u) >>= fun n => _) _ _ s
  refine wpAny_bind (wpAny_of_eq (a := (4 : Int)) rfl ?_)
  refine KTBy.if_not (by decide) ?_
  refine wpAny_bind (wpAny_of_eq (a := PySem.Str.ofString "big") (by kernel_rfl) ?_)
  refine wpAny_bind (wpAny_of_eq (a := false) rfl ?_)
  refine wpAny_bind (wpAny_of_eq (a := false) (by kernel_rfl) ?_)
  refine wpAny_ite_false (by decide) ?_
  refine wpAny_ite_false (by decide) ?_
  refine wpAny_ite_false (decide_eq_false (by rw [sizeLine_eq]; omega)) ?_
  by_cases hn : x < 0
  · have e : (decide (x < 0) && !false) = true := by rw [decide_eq_true hn]; rfl
    refine wpAny_ite_true (decide_eq_true e) ?_
    first
    | exact wpAny_bind (wpAny_rule (by exact_raiseError plainExc_OverflowError hh h))
    | exact wpAny_bind (wpAny_rule (wpAny_bind (by exact_raiseError plainExc_OverflowError hh h)))
    | exact wpAny_bind (wpAny_bind (wpAny_rule (by exact_raiseError plainExc_OverflowError hh h)))
    | exact wpAny_rule (by exact_raiseError plainExc_OverflowError hh h)
  · refine KTBy.if_not (by show (decide (x < 0) && !false) = false; rw [decide_eq_false hn]; rfl) ?_
    have hb : ¬ (intBits x ≤ 8 * 4) := by
      intro hc
      have := intBits_le_iff.mp hc
      have e2 : (2 : Nat) ^ (8 * 4) = 4294967296 := by decide
      rw [e2] at this
      omega
    have e : ((x != 0) && decide ((intBits x : Int) > 8 * 4)) = true := by
      rw [decide_eq_true (show (intBits x : Int) > 8 * 4 by omega), Bool.and_true]
      simp
      omega
    refine wpAny_ite_true (decide_eq_true e) ?_
    first
    | exact wpAny_bind (wpAny_rule (by exact_raiseError plainExc_OverflowError hh h))
    | exact wpAny_bind (wpAny_rule (wpAny_bind (by exact_raiseError plainExc_OverflowError hh h)))
    | exact wpAny_bind (wpAny_bind (wpAny_rule (by exact_raiseError plainExc_OverflowError hh h)))
    | exact wpAny_rule (by exact_raiseError plainExc_OverflowError hh h)
end
section
variable {prog : Program} {w : World} {A : Around} {E : Value → Shared → Prop} {s : Shared} {a b k : Int} {t u : Tok} {Q : Value → Shared → Prop}
theorem div_lit (hb : 0 < b) (hl : b.natAbs.log2 < 9000) (h : Q (.int (a / b) s.toks) { s with toks := s.toks + 1 }) : wpAny (model prog w) A (binaryOp .FloorDiv (.int a t) (.int b u)) Q E s :=
  floordiv_int (by omega) (by rw [Int.fdiv_eq_ediv_of_nonneg a (Int.le_of_lt hb)]; exact h) (Or.inl (PyProof.noPylong_of_log2 hl))
theorem mod_lit (hb : 0 < b) (h : Q (.int (a % b) s.toks) { s with toks := s.toks + 1 }) : wpAny (model prog w) A (binaryOp .Mod (.int a t) (.int b u)) Q E s :=
  mod_int' (by omega) (by rw [Int.fmod_eq_emod_of_nonneg a (Int.le_of_lt hb)]; exact h)
theorem two_pos (n : Nat) : (0 : Int) < 2 ^ n := Int.pow_pos (by decide)
theorem pow_two (h0 : 0 ≤ k) (h1 : k ≤ 15) (h : Q (.int (2 ^ k.toNat) s.toks) { s with toks := s.toks + 1 }) : wpAny (model prog w) A (binaryOp .Pow (.int 2 t) (.int k u)) Q E s :=
  pow_int_small h0 (by omega) (by decide) h
theorem div_two (h1 : k ≤ 15) (h : Q (.int (a / 2 ^ k.toNat) s.toks) { s with toks := s.toks + 1 }) : wpAny (model prog w) A (binaryOp .FloorDiv (.int a t) (.int (2 ^ k.toNat) u)) Q E s :=
  div_lit (two_pos _) (kbt_py (by omega)) h
end
end
-- X0
section
section
variable {M : Model} {A : Around} {E : Value → Shared → Prop} {s : Shared}
/-- the first note of a frame on a new exception, its object told -/
theorem noteNew {B : Heap} {env : Env} {outer : List Env} {L e : Addr} {oe : Obj} {vs : Array Value} {Q : Unit → Shared → Prop}
    (hfr : A.frames = some (env :: outer)) (hl : s.heap.FunFrames B (env :: outer)) (hf : env.frame = some L)
    (he : s.heap.get? e = some oe) (hkb : B.StaysIn s.heap) (hen : B.get? e = none) (hd : oe.data = .fields vs) (h1 : vs[1]? = some .none)
    (h : ∀ h' T oT ts, B.StaysIn h' → h'.FunFrames B (env :: outer) → h'.get? e = some (oe.mapFields (·.setIfInBounds 1 (.ref T))) → h'.get? T = some oT → oT.data = .fields ts → ts[3]? = some (rawInt L) → T ≠ e → B.get? T = none →
      s.heap.UpToSlots h' → Q () { s with heap := h' }) :
    wpAny M A (noteFrame (.ref e) env) Q E s := by
  have hsz : 1 < vs.size := (Array.getElem?_eq_some_iff.mp h1).1
  have hene : e ∉ (env :: outer).filterMap (·.frame) := fun hm => by
    obtain ⟨_, o, ho, hnf⟩ := hl.mem hm
    rw [he] at ho
    injection ho with ho
    subst ho
    exact hnf vs hd
  unfold noteFrame
  simp only [hf]
  refine wpAny_bind (wpAny_field he hd h1 ?_)
  rw [if_neg (by decide)]
  refine wpAny_bind (wpAny_frameOf_fun hfr hl hf fun h₁ hs₁ => ?_)
  refine wpAny_bind (wpAny_entryPlaceOf fun pl hpl => ?_)
  unfold EntryCells.newEntry newFields
  refine wpAny_bind (wpAny_newObj_type ?_ (hpl.sizeOk5 _ _ _ _ _))
  have he₁ : h₁.get? e = some oe := (hs₁.2.1 e hene).trans he
  have kb₁ : B.StaysIn h₁ := fun b o hbo => (hs₁.2.1 b fun hm => by rw [(hl.mem hm).1] at hbo; cases hbo).trans (hkb b o hbo)
  generalize hot : ({ cls := .type "traceback", dict := none, data := .fields ([Value.none, .ref L, .none, rawInt L, .none] ++ (if pl.isEmpty then List.replicate 6 Value.none else pl)).toArray } : Obj) = ot
  have he₂ := Heap.get?_push_of_some (h := h₁) ot he₁
  have hotd : ot.data = .fields ([Value.none, .ref L, .none, rawInt L, .none] ++ (if pl.isEmpty then List.replicate 6 Value.none else pl)).toArray := by rw [← hot]
  have hTe : h₁.objs.size ≠ e := Nat.ne_of_gt (Heap.lt_size he₁)
  have hd₃ := Obj.data_mapFields hd (·.setIfInBounds 1 (Value.ref h₁.objs.size))
  have hT₁ : (h₁.push ot).get? h₁.objs.size = some ot := Heap.get?_push_size h₁ (Obj.isFreed_of_fields hotd)
  have keep : ∀ b o, b ≠ e → h₁.get? b = some o → ((h₁.push ot).update e (Obj.mapFields (·.setIfInBounds 1 (Value.ref h₁.objs.size)))).get? b = some o := fun b o hbe hb => by
    rw [Heap.get?_update_other _ _ (Ne.symm hbe)]
    exact Heap.get?_push_of_some _ hb
  have noRecord : ∀ b o, s.heap.get? b = some o → (∀ vs, o.data ≠ .fields vs) → b ≠ e := fun b o hb hnf q => by
    rw [q, he] at hb
    injection hb with hb
    subst hb
    exact hnf vs hd
  refine wpAny_setField he₂ hd hsz (h _ h₁.objs.size ot _ ?_ ?_ (Heap.get?_update_self _ he₂ (Obj.isFreed_of_fields hd₃)) ?_ hotd ?_ hTe kb₁.fresh ?_)
  · exact fun b o hbo => keep b o (fun q => by rw [q, hen] at hbo; cases hbo) (kb₁ b o hbo)
  · refine hl.of_keeps fun b o hb hnf => ?_
    obtain ⟨sl, hs⟩ := hs₁.2.2 b o hb
    exact ⟨_, keep b _ (noRecord b o hb hnf) hs, rfl⟩
  · rw [Heap.get?_update_other _ _ (Ne.symm hTe)]
    exact hT₁
  · simp
  · intro b o hb hnf
    obtain ⟨sl, hs⟩ := hs₁.2.2 b o hb
    exact ⟨sl, keep b _ (noRecord b o hb hnf) hs⟩
end
theorem entry_unchain : entryFor table "proto.unchain" = some Builtin.«proto.unchain» := entryFor_of_fast (by kernel_rfl)
section
variable {prog : Program} {w : World} {A : Around} {E : Value → Shared → Prop} {s : Shared} {env : Env}
theorem raiseStmt_marked {cls : String} (F : ExcRaiseFacts cls) {e1 : Addr} {x : Sem Value} {Q : Flow → Shared → Prop} (hh : A.handled = some (.ref e1))
    (h : wpAny (model prog w) A x (fun v s₁ => ∃ e t o1 vs1, v = .ref e ∧ s₁.heap.get? e = some { cls := .type cls, data := .fields #[.ref t, .none, .none, .none, .bool false, .none] } ∧ e1 ≠ e ∧ s₁.heap.get? e1 = some o1 ∧ o1.data = .fields vs1 ∧ vs1[2]? = some .none ∧
      E (.ref e) { s₁ with heap := s₁.heap.update e (Obj.mapFields (·.setIfInBounds 2 (.ref e1))) }) E s) :
    wpAny (model prog w) A (raiseStmt env (some x) none) Q E s := by
  unfold raiseStmt
  refine wpAny_bind (wpAny_mono h (fun v s₁ h₁ => ?_) fun _ _ x => x)
  obtain ⟨e, t, o1, vs1, rfl, he, hne, ho1, hd1, h2, hE⟩ := h₁
  obtain ⟨hp, g, d, tk, os⟩ := s₁
  have hsub := F.isExc
  have hmeta := F.plainMeta
  repeat (first | refine wpAny_loadPart he ?_ | wp_step)
  unfold raiseNew
  refine wpAny_bind (wpAny_handled ?_)
  rw [hh]
  have hne' : (Value.ref e1 != Value.ref e) = true := by
    rw [bne_iff_ne]
    intro q
    exact hne (Value.ref.inj q)
  show wpAny _ _ (if (Value.ref e1 != Value.ref e) = true then _ else _) _ _ _
  rw [if_pos hne']
  refine wpAny_bind (wpAny_holding (wpAny_runValue (codeAny_builtin entry_unchain ?_)))
  show wpAny _ _ (field (.ref e1) 2 >>= fun c => _) _ _ _
  refine wpAny_bind (wpAny_field ho1 hd1 h2 ?_)
  show wpAny _ _ (if (Value.none == Value.none) = true then _ else _) _ _ _
  rw [if_pos (by decide)]
  refine wpAny_pure ?_
  show wpAny _ _ (updateField e 2 (.ref e1) >>= fun _ => _) _ _ _
  unfold updateField
  refine wpAny_bind (wpAny_bind (wpAny_load he ?_))
  show wpAny _ _ (if 2 < _ then _ else _) _ _ _
  rw [if_pos (by simp)]
  refine wpAny_update he ?_
  exact wpAny_throw hE
theorem Raise_marked {cls : String} (F : ExcRaiseFacts cls) {e1 : Addr} {x : PySem.Expr} {pos : Pos} {Q : Flow → Shared → Prop} (hh : A.handled = some (.ref e1))
    (h : wpAny (model prog w) A (eval x env) (fun v s₁ => ∃ e t o1 vs1, v = .ref e ∧ s₁.heap.get? e = some { cls := .type cls, data := .fields #[.ref t, .none, .none, .none, .bool false, .none] } ∧ e1 ≠ e ∧ s₁.heap.get? e1 = some o1 ∧ o1.data = .fields vs1 ∧ vs1[2]? = some .none ∧
      E (.ref e) { s₁ with heap := s₁.heap.update e (Obj.mapFields (·.setIfInBounds 2 (.ref e1))) }) E s) :
    wpAny (model prog w) A (exec (.Raise (some x) none pos) env) Q E s := by
  rw [arm_exec_Raise]
  first
    | exact wpAny_bind (wpAny_standAt (raiseStmt_marked F hh (wpAny_bind (wpAny_mono h (fun v s₁ h₁ => wpAny_bind (wpAny_standAt (wpAny_pure h₁))) fun _ _ x => x))))
    | (show wpAny _ A (do standAt pos; raiseStmt env (some (do let v ← eval x env; standAt pos; pure v)) none) Q E s; exact wpAny_bind (wpAny_standAt (raiseStmt_marked F hh (wpAny_bind (wpAny_mono h (fun v s₁ h₁ => wpAny_bind (wpAny_standAt (wpAny_pure h₁))) fun _ _ x => x)))))
end
structure Caught (B : Heap) (l : List Env) (h : Heap) (e T : Addr) (oe : Obj) (h3 : Heap) : Prop where
  kb : B.StaysIn h3
  ff : h3.FunFrames B l
  he : h3.get? e = some oe
  hT : ∃ oT ts, h3.get? T = some oT ∧ oT.data = .fields ts ∧ 3 < ts.size
  ne : T ≠ e
  hTB : B.get? T = none
  up : h.UpToSlots h3
theorem Caught.off {B : Heap} {l : List Env} {h : Heap} {e T : Addr} {oe : Obj} {h3 : Heap} (x : Caught B l h e T oe h3) : Caught B l h e T oe (h3.update T (Obj.mapFields (·.setIfInBounds 3 .none))) := by
  obtain ⟨oT, ts, hT, hd, hz⟩ := x.hT
  have other : ∀ b, b ≠ T → (h3.update T (Obj.mapFields (·.setIfInBounds 3 .none))).get? b = h3.get? b := fun b hb => Heap.get?_update_other _ _ (Ne.symm hb)
  have noRecord : ∀ b o, h3.get? b = some o → (∀ vs, o.data ≠ .fields vs) → b ≠ T := fun b o hb hnf q => by
    rw [q, hT] at hb
    injection hb with hb
    subst hb
    exact hnf ts hd
  refine ⟨fun b o q => ?_, x.ff.of_keeps fun b o q hnf => ⟨o, (other b (noRecord b o q hnf)).trans q, rfl⟩, (other e (Ne.symm x.ne)).trans x.he, ?_, x.ne, x.hTB, x.up.trans fun b o q hnf => ⟨o.slots, (other b (noRecord b o q hnf)).trans q⟩⟩
  · refine (other b fun z => ?_).trans (x.kb b o q)
    rw [z, x.hTB] at q
    cases q
  · have hd' := Obj.data_mapFields hd (·.setIfInBounds 3 Value.none)
    exact ⟨_, _, Heap.get?_update_self _ hT (Obj.isFreed_of_fields hd'), hd', by simpa using hz⟩
section
variable {prog : Program} {w : World} {A₀ : Around} {s' : Shared} {base g h : Heap} {outer : List Env} {L a e : Addr} {m : Str → Option Value} {name : Str} {scope : Scope} {cd : Value} {news : List (Addr × Obj)} {KF : Frag}
  {p : Program} {loose : List Str} {mean : ExcName → Option Value} {mg mb : Str → Option Value} {msg : Str} {np np2 cp cpos pos2 pos : Pos} {kk : Nat} {Q : Flow → Shared → Prop} {E1 : Value → Shared → Prop}
/-- an OverflowError of the frame's own try, caught by its clause that raises a ValueError: what leaves the frame -/
theorem over_value (K : Below A₀ base outer g) (hx : Heap.NewExc h s'.heap e "OverflowError") (F : Fr g L h m) (N : News g L h news) (XB : KF.In base) (TB : Top p loose mean mg mb base)
    (ex1 : nsIn KF mainGlobals (PySem.Str.ofString "OverflowError") = some none) (ex2 : nsIn KF mainGlobals (PySem.Str.ofString "ValueError") = some none)
    (hQ : ∀ h' e2 t tok tk, RaisedS base g outer e2 (.type "ValueError") t [.str msg tok] news h' → g.UpToSlots h' → E1 (.ref e2) { s' with heap := h', toks := tk })
    (hk : scope.kind = .function) (hx1 : (envOf name scope L a cd).kindOf (PySem.Str.ofString "OverflowError") = some .globalImplicit) (hx2 : (envOf name scope L a cd).kindOf (PySem.Str.ofString "ValueError") = some .globalImplicit) :
    wpAny (model prog w) (A₀.deeper (envOf name scope L a cd)) (noteFrame (.ref e) (envOf name scope L a cd))
      (fun _ s₂ => wpAny (model prog w) (A₀.deeper (envOf name scope L a cd)) (setFlight (.ref e) none) (fun _ s₃ =>
        wpAny (model prog w) (A₀.deeper (envOf name scope L a cd)) (handleBy (.ref e) (envOf name scope L a cd) [.ExceptHandler (some (.Name (PySem.Str.ofString "OverflowError") np)) none [.Raise (some (.Call (.Name (PySem.Str.ofString "ValueError") np2) [.Constant (.str msg) kk cp] [] cpos)) none pos2] pos]) Q
          (fun e s' => wpAny (model prog w) (A₀.deeper (envOf name scope L a cd)) (leaving (envOf name scope L a cd) e) (fun _ s'' => E1 e s'') (fun e' s'' => E1 e' s'') s') s₃)
        (fun e s' => wpAny (model prog w) (A₀.deeper (envOf name scope L a cd)) (leaving (envOf name scope L a cd) e) (fun _ s'' => E1 e s'') (fun e' s'' => E1 e' s'') s') s₂)
      (fun e s' => wpAny (model prog w) (A₀.deeper (envOf name scope L a cd)) (leaving (envOf name scope L a cd) e) (fun _ s'' => E1 e s'') (fun e' s'' => E1 e' s'') s') s' := by
  have K' := K.push (name := name) (a := a) (cd := cd) F hk
  have hin : ∀ env ∈ (envOf name scope L a cd :: outer), ∀ b, env.frame = some b → b ∈ (envOf name scope L a cd :: outer).filterMap (·.frame) := fun env he b hb => List.mem_filterMap.mpr ⟨env, he, hb⟩
  obtain ⟨B, hBdef⟩ : ∃ B, B = hideAll h ((envOf name scope L a cd :: outer).filterMap (·.frame)) := ⟨_, rfl⟩
  have ofB : ∀ b o, B.get? b = some o → h.get? b = some o := fun b o q => of_hideAll _ (hBdef ▸ q)
  have toB : ∀ b o, h.get? b = some o → b ∉ (envOf name scope L a cd :: outer).filterMap (·.frame) → B.get? b = some o := fun b o q n => by rw [hBdef]; exact hideAll_get _ q n
  have freshB : ∀ b, h.get? b = none → B.get? b = none := fun b q => by
    cases r : B.get? b with
    | none => rfl
    | some o => have := ofB b o r; rw [q] at this; cases this
  have FB : h.FunFrames B (envOf name scope L a cd :: outer) := by rw [hBdef]; exact funFrames_hide K'.frames hin
  obtain ⟨ob, tp, he, hcls, hd⟩ := hx.there
  refine noteNew (B := B) K'.stack (FB.of_keeps fun b o hb _ => ⟨o, hx.keeps b o hb, rfl⟩) rfl he (fun b o hb => hx.keeps b o (ofB b o hb)) (freshB e hx.new) hd rfl fun h3 T oT ts kb3 ff3 he3 hT3 hdT h3f hTe hTB up3 => ?_
  have hd3 := Obj.data_mapFields hd (·.setIfInBounds 1 (Value.ref T))
  have hts : 3 < ts.size := (Array.getElem?_eq_some_iff.mp h3f).1
  have C3 : Caught B (envOf name scope L a cd :: outer) h e T (ob.mapFields (·.setIfInBounds 1 (.ref T))) h3 := ⟨kb3, ff3, he3, ⟨oT, ts, hT3, hdT, hts⟩, hTe, hTB, (Heap.UpToSlots.of_keeps hx.keeps).trans up3⟩
  refine wpAny_setFlight_none (s := { s' with heap := h3 }) he3 hd3 (by simp) hT3 hdT hts ?_
  have C4 := C3.off
  obtain ⟨h4, h4def⟩ : ∃ h4, h4 = h3.update T (Obj.mapFields (·.setIfInBounds 3 .none)) := ⟨_, rfl⟩
  rw [← h4def] at C4
  show wpAny _ _ _ _ _ ({ s' with heap := h3.update T (Obj.mapFields (·.setIfInBounds 3 .none)) } : Shared)
  rw [← h4def]
  have name_at : ∀ (h9 : Heap), Caught B (envOf name scope L a cd :: outer) h e T (ob.mapFields (·.setIfInBounds 1 (.ref T))) h9 → ∃ g', Fr g' L h9 m ∧ KF.In g' ∧ TopRead p loose mg mb g' := fun h9 C9 => by
    obtain ⟨g', _, F9, K9⟩ := kts_ground K F toB C9.kb C9.up
    exact ⟨g', F9, XB.keeps K9.stays, topRead_of (TB.keeps K9.stays)⟩
  obtain ⟨g4, F4, X4, P4⟩ := name_at h4 C4
  have cls3 : (ob.mapFields (·.setIfInBounds 1 (.ref T))).cls = .type "OverflowError" := (Obj.cls_mapFields _ _).trans hcls
  refine wpAny_handleBy_builtin (X := "OverflowError") (T := "OverflowError") (b := true) PySem.F.isExc_OverflowError PySem.F.notTuple_OverflowError (by rw [isSubtype_type]; kernel_rfl)
    (name_B (s := { s' with heap := h4 }) F4 X4 P4 ex1 PyProof.Rows.Boot.«OverflowError» (by decide) ⟨rfl, ⟨_, C4.he, cls3⟩, ?_⟩ hk hx1 (by decide))
  rw [if_pos rfl]
  obtain ⟨oT4, ts4, hT4, hdT4, hts4⟩ := C4.hT
  refine wpAny_setFlight_none (s := { s' with heap := h4 }) C4.he hd3 (by simp) hT4 hdT4 hts4 ?_
  have C5 := C4.off
  obtain ⟨h5, h5def⟩ : ∃ h5, h5 = h4.update T (Obj.mapFields (·.setIfInBounds 3 .none)) := ⟨_, rfl⟩
  rw [← h5def] at C5
  show wpAny _ _ _ _ _ ({ s' with heap := h4.update T (Obj.mapFields (·.setIfInBounds 3 .none)) } : Shared)
  rw [← h5def]
  obtain ⟨g5, F5, X5, P5⟩ := name_at h5 C5
  refine wpAny_passesOwnAt PassesOwnAt.leaving ?_
  refine wpAny_execs_cons ?_
  refine Raise_marked PySem.F.excRaise_ValueError (e1 := e) rfl ?_
  refine wpAny_Call_ofName (name_B (s := { s' with heap := h5 }) F5 X5 P5 ex2 PyProof.Rows.Boot.«ValueError» (by decide) ?_ hk hx2 (by decide))
  show wpAny _ _ (callWith cpos (.type "ValueError") [] [(false, eval (.Constant (.str msg) kk cp) (envOf name scope L a cd))] []) _ _ _
  refine callWith_excType rfl (Calls.evalArgs_plain (Calls.spliced_cons (Calls.Constant_str (Calls.spliced_nil ?_))))
  refine wpAny_call_exc PySem.F.excCall_ValueError (hrest := by rw [sizeLine_eq]; simp) fun h6 e2 hm => ?_
  obtain ⟨t, he2, htn, ht⟩ := hm.there
  have e2e : e ≠ e2 := fun q => by
    have := hm.new
    rw [← q, C5.he] at this
    cases this
  refine ⟨e2, t, _, _, rfl, he2, e2e, hm.keeps _ _ C5.he, hd3, by simp, ?_⟩
  -- what leaves
  obtain ⟨h7, h7def⟩ : ∃ h7, h7 = h6.update e2 (Obj.mapFields (·.setIfInBounds 2 (.ref e))) := ⟨_, rfl⟩
  have other7 : ∀ b, b ≠ e2 → h7.get? b = h6.get? b := fun b hb => by rw [h7def]; exact Heap.get?_update_other _ _ (Ne.symm hb)
  have old7 : ∀ b o, h5.get? b = some o → h7.get? b = some o := fun b o q => (other7 b fun z => by rw [z, hm.new] at q; cases q).trans (hm.keeps b o q)
  have hd7 := Obj.data_mapFields (o := ({ cls := .type "ValueError", data := .fields #[.ref t, .none, .none, .none, .bool false, .none] } : Obj)) rfl (·.setIfInBounds 2 (Value.ref e))
  have he7 : h7.get? e2 = some (Obj.mapFields (·.setIfInBounds 2 (Value.ref e)) { cls := .type "ValueError", data := .fields #[.ref t, .none, .none, .none, .bool false, .none] }) := by
    rw [h7def]
    exact Heap.get?_update_self _ he2 (Obj.isFreed_of_fields hd7)
  have fr5 : ∀ b, h5.get? b = none → B.get? b = none := fun b q => by
    cases r : B.get? b with
    | none => rfl
    | some o => have := C5.kb b o r; rw [q] at this; cases this
  have t7 : h7.TupAt t [.str msg _] := ⟨_, _, (other7 t fun z => by rw [z, he2] at ht; exact absurd (congrArg Obj.data (Option.some.inj ht)) (by intro q; cases q)).trans ht, rfl, rfl⟩
  show wpAny _ _ _ _ _ ({ s' with heap := h6.update e2 (Obj.mapFields (·.setIfInBounds 2 (.ref e))), toks := _ } : Shared)
  rw [← h7def]
  refine wpAny_leaving_firstW (base := B) (a0 := .ref t) (vs := #[.ref t, .none, .ref e, .none, .bool false, .none]) K'.stack (C5.ff.of_keeps fun b o q _ => ⟨o, old7 b o q, rfl⟩) rfl he7 (fun b o q => old7 b o (C5.kb b o q)) (fr5 e2 hm.new) hd7 rfl rfl fun h8 hL => ?_
  obtain ⟨k1, ⟨_, _, k2⟩, k3, k4⟩ := hL
  have st : base.StaysIn B := fun b o q => toB b o (K'.stays b o q) fun hm => by
    rw [(K'.frames.mem hm).1] at q
    cases q
  have sg : ∀ b o, g.get? b = some o → b ∉ outer.filterMap (·.frame) → B.get? b = some o := fun b o q nm => toB b o (F.keep b o q) fun hm => by
    rcases kts_mem hm with z | z
    · rw [z, kts_self F] at q
      cases q
    · exact nm z
  have hl : ∀ q ∈ news, B.get? q.1 = some q.2 ∧ g.get? q.1 = none ∧ base.get? q.1 = none := fun q hq => by
    refine ⟨toB _ _ (N q hq).1 fun hm => ?_, (N q hq).2.2, fresh_of_stays K.stays (N q hq).2.2⟩
    rcases kts_mem hm with z | z
    · exact (N q hq).2.1 z
    · obtain ⟨o, ho, _⟩ := (K.frames.mem z).2
      rw [(N q hq).2.2] at ho
      cases ho
  refine hQ h8 e2 t _ _ ⟨⟨B, st, sg, hl, ⟨k1, fr5 e2 hm.new, k2, ?_⟩, fr5 t htn⟩, t7.of_slots k4⟩ ?_
  · rw [Obj.cls_mapFields] at k3
    exact k3
  · exact ((Heap.UpToSlots.of_keeps F.keep).trans C5.up).trans ((Heap.UpToSlots.of_keeps old7).trans k4)
end
section
variable {prog : Program} {w : World} {A : Around} {E : Value → Shared → Prop} {s : Shared} {h₀ : Heap} {L e t : Addr} {news : List (Addr × Obj)} {vs : List Value} {X : String} {Q : Value → Shared → Prop}
theorem type_got (N : News h₀ L s.heap news) (G : Got news e t (.type X) vs) (hn : (Value.type X == Value.type "builtin_function_or_method") = false) (hq : Q (.type X) s) : wpAny (model prog w) A (call (.type "type") [.ref e]) Q E s := by
  obtain ⟨oe, ot, ws, nt, h1, h2, hc, _⟩ := G
  obtain ⟨hh, g, d, tk, os⟩ := s
  exact call_type_obj (N _ h1).1 (by rw [hc]; exact hn) (by rw [hc]; exact hq)
end
end
-- H02
section
open_top hd02 for PySem.Challenge.rw_dm0181_02
end
-- N1
section
local macro_rules | `(tactic| walk_at "call builtin:int.to_bytes") => `(tactic| (k_here; (with_reducible show wpAny _ _ (call (Value.builtin "int.to_bytes") [Value.int _ _, Value.int _ _]) _ _ _); (refine tb_ok (by assumption) (by assumption) ?_); intro _ _))
theorem packed_ok2 {prog : Program} {w : World} {loose : List Str} {mean : ExcName → Option Value} {mg mb : Str → Option Value} {news : List (Addr × Obj)} {n : Int} {tn : Tok}
    {dp un : Nat} {gd : Option (List Code)} {cn : Str} {cs : Scope} {a : Addr} {ccd : Value} {cl : List (Str × Addr)} {outer : List Env} {A₀ : Around} {base h₀ : Heap} {L : Addr} {m : Str → Option Value} {s : Shared} {Q E : Value → Shared → Prop}
    (hB : Below A₀ base outer h₀) (hF : Fr h₀ L s.heap m) (hX : (hd02.heap_39 w.params).In h₀) (hN : News h₀ L s.heap news) (hT : Top hd02.view_39 loose mean mg mb h₀) (hk : cs.kind = .function)
    (h0 : 0 ≤ n) (h1 : n < 4294967296) (hd : dp + 1 < recursionLimit) (hret : CbRet h₀ L m news s Q (fun t => .bytes (pack n) t)) :
    wpAny (model prog w) (ktrTop dp un gd cn cs L a ccd cl outer) (call (.ref 34) [.int n tn]) Q E s := by
  have hz : PySem.Challenge.rw_dm0181_02 = PySem.Challenge.rw_dm0181_02 ∧ hd02.heap_39 = hd02.heap_39 := ⟨rfl, rfl⟩
  revert hz
  k_fill
  w_top off
  intro _
  refine wpAny_call ?_
  k_dflt cell_enter
  k_steps
  all_goals exact hret _ _ _ (by assumption) (by assumption)
end
-- N2
section
local macro_rules | `(tactic| walk_at "call builtin:int.to_bytes") => `(tactic| (k_here; (with_reducible show wpAny _ _ (call (Value.builtin "int.to_bytes") [Value.int _ _, Value.int _ _]) _ _ _); (refine tb_over (by assumption) (by rfl) ?_); intro _ _ _ _))
local macro_rules | `(tactic| walk_at "call ref") => `(tactic| (k_here; (refine wpAny_call ?_); k_dflt (refine' code_def ?k1 ?k2 ?k3 ?k4 ?k5 ?kA ?kF ?kK ?k6 ?k7 ?k8 ?k9 ?kB ?_ ?c2 ?c3 ?c4 ?c5; (case kA => exact rfl); (case kF => exact rfl); (case kK => first | exact rfl | assumption); (case k1 => k_asm); (case k2 => k_asm); (case k3 => k_asm); (case k4 => k_asm); (case k5 => k_asm); (case k6 => k_is); (case k7 => k_is); (case k8 => ktr_room); (case k9 => exact BindsTo.of_eq rfl); (case c5 => decide); (case kB => exact locs rfl); (case c2 => exact rfl); (case c3 => exact rfl); (case c4 => exact rfl); k_whole; intro g' L' h' FG' F' N' B' X' T'; (try dsimp only); (try k_fold))))
local macro_rules | `(tactic| walk_at "noteFrame ref") => `(tactic| (k_here; (with_reducible rename Heap.NewExc _ _ _ _ => nX); (with_unfolding_all refine' over_value ?k1 nX ?k2 ?k3 ?k4 ?k5 ?k6 ?k7 ?_ ?c1 ?c2 ?c3; (case k2 => assumption); (case k1 => assumption); (case k3 => k_asm); (case k4 => assumption); (case k5 => assumption); (case k6 => k_is); (case k7 => k_is); (case c1 => exact rfl); (case c2 => exact rfl); (case c3 => exact rfl); intro h' e2 t' tok tk' R' U'); (clear nX); (try dsimp only at R' U' ⊢)))
local macro_rules | `(tactic| walk_at "call type:type") => `(tactic| (k_here; (with_reducible show wpAny _ _ (call (Value.type "type") [Value.ref _]) _ _ _); (refine' type_got ?N ?G ?c ?_; (case G => assumption); (case N => assumption); (case c => decide +kernel); k_whole)))
theorem words_ok {prog : Program} {w : World} {loose : List Str} {mean : ExcName → Option Value} {mg mb : Str → Option Value} {news : List (Addr × Obj)} {n : Int} {tn : Tok}
    {cn : Str} {cs : Scope} {a : Addr} {ccd : Value} {h₀ : Heap} {L : Addr} {m : Str → Option Value} {s : Shared} {Q E : Value → Shared → Prop}
    (hF : Fr h₀ L s.heap m) (hX : (hd02.heap_39 w.params).In h₀) (hN : News h₀ L s.heap news) (hT : Top hd02.view_39 loose mean mg mb h₀) (hk : cs.kind = .function)
    (h0 : n < 0 ∨ 4294967296 ≤ n) (hret : CbRet h₀ L m news s Q (fun t => .str (PySem.Str.ofString "Address negative or too large for IPv4") t)) :
    wpAny (model prog w) (callerA.deeper (envOf cn cs L a ccd)) (call (.ref 48) [.int n tn]) Q E s := by
  have hz : PySem.Challenge.rw_dm0181_02 = PySem.Challenge.rw_dm0181_02 ∧ hd02.heap_39 = hd02.heap_39 := ⟨rfl, rfl⟩
  revert hz
  k_fill
  w_top off
  intro _
  have hB := below_caller h₀
  refine wpAny_call ?_
  k_dflt (refine' code_defS0 ?k1 ?k2 ?k3 ?k4 ?k5 ?kA ?k6 ?k7 ?k8 ?k9 ?kB ?_ ?cK ?c2 ?c3 ?c4 ?c5; (case kA => exact rfl); (case k2 => k_asm); (case k1 => k_asm); (case k3 => k_asm); (case k4 => k_asm); (case k5 => k_asm); (case k6 => k_is); (case k7 => k_is); (case k8 => k_room); (case k9 => exact BindsTo.of_eq rfl); (case kB => exact locs rfl); (case cK => assumption); (case c2 => exact rfl); (case c3 => exact rfl); (case c4 => exact rfl); (case c5 => decide); k_whole; intro g' L' h' FG' F' N' B' X' T' D'; (try dsimp only); (try k_lift B'); (try k_fold))
  k_steps
  all_goals exact hret _ _ _ (by assumption) (by assumption)
end
-- N3
section
/-- the number that four wheels show -/
def val (a b c d : Int) : Int := a * 16777216 + b * 65536 + c * 256 + d
abbrev wObj (a b c d : Int) (ta tb tc td : Tok) (n : Nat) : Obj := W.listOf [Value.int a ta, .int b tb, .int c tc, .int d td].toArray n
abbrev TurnRet (h₀ : Heap) (L : Addr) (m : Str → Option Value) (news : List (Addr × Obj)) (s : Shared) (Q : Value → Shared → Prop) (up : Bool) (v unit : Int) : Prop :=
  ∀ (T D : Addr) (n' : Nat) (a b c d : Int) (over : Bool) (ta tb tc td : Tok) (h' : Heap) (tk' : Nat), 0 ≤ a → a < 256 → 0 ≤ b → b < 256 → 0 ≤ c → c < 256 → 0 ≤ d → d < 256 →
    (val a b c d = if up then (if over then v + unit - 4294967296 else v + unit) else (if over then v - unit + 4294967296 else v - unit)) →
    Fr h₀ L h' m → News h₀ L h' ((T, ({ cls := .type "tuple", data := .seq [Value.ref D, .bool over].toArray } : Obj)) :: (D, wObj a b c d ta tb tc td n') :: news) → (∀ q ∈ news, q.1 < D) → D < T → Q (.ref T) { s with heap := h', toks := tk' }
theorem unr_off {I D : Addr} {o : Obj} {news : List (Addr × Obj)} (h : D < I ∧ AllLt I news) : ∀ p ∈ (D, o) :: news, p.1 ≠ I :=
  List.forall_mem_cons.mpr ⟨Nat.ne_of_lt h.1, fun p hp => Nat.ne_of_lt (ktn_ltOf h.2 p hp)⟩
section
variable {prog : Program} {w : World} {A : Around} {E : Value → Shared → Prop} {s : Shared} {h₀ : Heap} {L l : Addr} {news : List (Addr × Obj)} {vs : List Value} {n : Nat} {k : Int} {u : Tok} {v : Value} {Q : Value → Shared → Prop}
theorem get_at (N : News h₀ L s.heap news) (hm : (l, W.listOf vs.toArray n) ∈ news) (h0 : 0 ≤ k) (h1 : k < 2 ^ 63) (hx : vs[k.toNat]? = some v) (h : Q v s) : wpAny (model prog w) A (getItem (.ref l) (.int k u)) Q E s := by
  have hl : s.heap.IsList l vs.toArray := ⟨_, (N _ hm).1, rfl, n, rfl⟩
  exact wpAny_getItem_list hl h0 h1 (by simpa using hx) h
theorem item_at {value slice : PySem.Expr} (N : News h₀ L s.heap news) (hm : (l, W.listOf vs.toArray n) ∈ news) (h0 : 0 ≤ k) (h1 : k < 2 ^ 63) (hx : vs[k.toNat]? = some v) (h : Q v s)
    (hs : subscripted slice false (.ref l) (.int k u) = operate [.ref l, .int k u] (getItem (.ref l) (.int k u)) := by with_unfolding_all rfl) :
    wpAny (model prog w) A (subscriptTail value slice (.ref l) (.int k u)) Q E s := by
  have hl : s.heap.IsList l vs.toArray := ⟨_, (N _ hm).1, rfl, n, rfl⟩
  exact tail_any hl.typeIs slot_list_getitem.lookup (get_at N hm h0 h1 hx h) hs
end
section
variable {h₀ h' : Heap} {L T D I : Addr} {m : Str → Option Value} {news : List (Addr × Obj)} {s : Shared} {Q : Value → Shared → Prop} {up over : Bool} {v unit a b c d : Int} {ta tb tc td : Tok} {n' tk' : Nat} {it : Obj}
theorem turn_end0 (hret : TurnRet h₀ L m news s Q up v unit) (F : Fr h₀ L h' m) (N : News h₀ L h' ((T, ({ cls := .type "tuple", data := .seq [Value.ref D, .bool over].toArray } : Obj)) :: (D, wObj a b c d ta tb tc td n') :: news))
    (hD : ∀ q ∈ news, q.1 < D) (hT : D < T ∧ AllLt T news) (h : (0 ≤ a ∧ a < 256) ∧ (0 ≤ b ∧ b < 256) ∧ (0 ≤ c ∧ c < 256) ∧ (0 ≤ d ∧ d < 256) ∧
      (val a b c d = if up then (if over then v + unit - 4294967296 else v + unit) else (if over then v - unit + 4294967296 else v - unit))) : Q (.ref T) { s with heap := h', toks := tk' } :=
  hret T D n' a b c d over ta tb tc td h' tk' h.1.1 h.1.2 h.2.1.1 h.2.1.2 h.2.2.1.1 h.2.2.1.2 h.2.2.2.1.1 h.2.2.2.1.2 h.2.2.2.2 F N hD hT.1
theorem turn_end (hret : TurnRet h₀ L m news s Q up v unit) (F : Fr h₀ L h' m) (N : News h₀ L h' ((T, ({ cls := .type "tuple", data := .seq [Value.ref D, .bool over].toArray } : Obj)) :: (I, it) :: (D, wObj a b c d ta tb tc td n') :: news))
    (hD : ∀ q ∈ news, q.1 < D) (hT : I < T ∧ D < T ∧ AllLt T news) (h : (0 ≤ a ∧ a < 256) ∧ (0 ≤ b ∧ b < 256) ∧ (0 ≤ c ∧ c < 256) ∧ (0 ≤ d ∧ d < 256) ∧
      (val a b c d = if up then (if over then v + unit - 4294967296 else v + unit) else (if over then v - unit + 4294967296 else v - unit))) : Q (.ref T) { s with heap := h', toks := tk' } :=
  turn_end0 hret F (cb_drop N fun p hp => by
    rcases List.mem_cons.mp hp with rfl | hp
    · exact .head _
    · exact .tail _ (.tail _ hp)) hD hT.2 h
end
local macro_rules | `(tactic| walk_at "UnrEnd") => `(tactic| (refine UnrEnd.intro (by assumption) (by assumption) _ (fun p hp => hp) (unr_off (by assumption)) ?_))
local macro_rules | `(tactic| walk_at "subscriptTail Name Name ref int") => `(tactic| (k_here; (with_reducible show wpAny _ _ (subscriptTail _ _ (Value.ref _) (Value.int _ _)) _ _ _); k_dflt (refine' item_at ?k1 ?k2 ?k3 ?k4 ?k5 ?_ ?k6; (case k1 => k_asm); (case k2 => k_mem); (case k3 => decide); (case k4 => decide); (case k5 => rfl); (case k6 => with_unfolding_all rfl); k_whole)))
local macro_rules | `(tactic| walk_at "getItem ref int") => `(tactic| (k_here; k_dflt (refine' get_at ?k1 ?k2 ?k3 ?k4 ?k5 ?_; (case k1 => k_asm); (case k2 => k_mem); (case k3 => decide); (case k4 => decide); (case k5 => rfl); k_whole)))
section
variable {prog : Program} {w : World} {loose : List Str} {mean : ExcName → Option Value} {mg mb : Str → Option Value} {news : List (Addr × Obj)} {lw : Addr} {a b c d : Int} {ta tb tc td tp : Tok} {n : Nat}
    {dp un : Nat} {gd : Option (List Code)} {cn : Str} {cs : Scope} {ca : Addr} {ccd : Value} {cl : List (Str × Addr)} {outer : List Env} {A₀ : Around} {base h₀ : Heap} {L : Addr} {m : Str → Option Value} {s : Shared} {Q E : Value → Shared → Prop}
theorem turn0t (hB : Below A₀ base outer h₀) (hF : Fr h₀ L s.heap m) (hX : (hd02.heap_39 w.params).In h₀) (hN : News h₀ L s.heap news) (hT : Top hd02.view_39 loose mean mg mb h₀) (hk : cs.kind = .function)
    (hm : (lw, wObj a b c d ta tb tc td n) ∈ news) (ha : 0 ≤ a ∧ a < 256) (hb : 0 ≤ b ∧ b < 256) (hc : 0 ≤ c ∧ c < 256) (hd' : 0 ≤ d ∧ d < 256)
    (hd : dp + 1 < recursionLimit) (hret : TurnRet h₀ L m news s Q true (val a b c d) 16777216) :
    wpAny (model prog w) (ktrTop dp un gd cn cs L ca ccd cl outer) (call (.ref 41) [.ref lw, .int 0 tp, .bool true]) Q E s := by
  have hz : PySem.Challenge.rw_dm0181_02 = PySem.Challenge.rw_dm0181_02 ∧ hd02.heap_39 = hd02.heap_39 := ⟨rfl, rfl⟩
  revert hz
  k_fill
  w_top off
  intro _
  refine wpAny_call ?_
  k_dflt cell_enter
  k_steps
  all_goals (first | refine turn_end hret (by assumption) (by assumption) (by assumption) (by assumption) ?_ | refine turn_end0 hret (by assumption) (by assumption) (by assumption) (by assumption) ?_)
  all_goals (unfold val; (try simp only [reduceIte, Bool.false_eq_true]); omega)
theorem turn0f (hB : Below A₀ base outer h₀) (hF : Fr h₀ L s.heap m) (hX : (hd02.heap_39 w.params).In h₀) (hN : News h₀ L s.heap news) (hT : Top hd02.view_39 loose mean mg mb h₀) (hk : cs.kind = .function)
    (hm : (lw, wObj a b c d ta tb tc td n) ∈ news) (ha : 0 ≤ a ∧ a < 256) (hb : 0 ≤ b ∧ b < 256) (hc : 0 ≤ c ∧ c < 256) (hd' : 0 ≤ d ∧ d < 256)
    (hd : dp + 1 < recursionLimit) (hret : TurnRet h₀ L m news s Q false (val a b c d) 16777216) :
    wpAny (model prog w) (ktrTop dp un gd cn cs L ca ccd cl outer) (call (.ref 41) [.ref lw, .int 0 tp, .bool false]) Q E s := by
  have hz : PySem.Challenge.rw_dm0181_02 = PySem.Challenge.rw_dm0181_02 ∧ hd02.heap_39 = hd02.heap_39 := ⟨rfl, rfl⟩
  revert hz
  k_fill
  w_top off
  intro _
  refine wpAny_call ?_
  k_dflt cell_enter
  k_steps
  all_goals (first | refine turn_end hret (by assumption) (by assumption) (by assumption) (by assumption) ?_ | refine turn_end0 hret (by assumption) (by assumption) (by assumption) (by assumption) ?_)
  all_goals (unfold val; (try simp only [reduceIte, Bool.false_eq_true]); omega)
theorem turn1t (hB : Below A₀ base outer h₀) (hF : Fr h₀ L s.heap m) (hX : (hd02.heap_39 w.params).In h₀) (hN : News h₀ L s.heap news) (hT : Top hd02.view_39 loose mean mg mb h₀) (hk : cs.kind = .function)
    (hm : (lw, wObj a b c d ta tb tc td n) ∈ news) (ha : 0 ≤ a ∧ a < 256) (hb : 0 ≤ b ∧ b < 256) (hc : 0 ≤ c ∧ c < 256) (hd' : 0 ≤ d ∧ d < 256)
    (hd : dp + 1 < recursionLimit) (hret : TurnRet h₀ L m news s Q true (val a b c d) 65536) :
    wpAny (model prog w) (ktrTop dp un gd cn cs L ca ccd cl outer) (call (.ref 41) [.ref lw, .int 1 tp, .bool true]) Q E s := by
  have hz : PySem.Challenge.rw_dm0181_02 = PySem.Challenge.rw_dm0181_02 ∧ hd02.heap_39 = hd02.heap_39 := ⟨rfl, rfl⟩
  revert hz
  k_fill
  w_top off
  intro _
  refine wpAny_call ?_
  k_dflt cell_enter
  k_steps
  all_goals (first | refine turn_end hret (by assumption) (by assumption) (by assumption) (by assumption) ?_ | refine turn_end0 hret (by assumption) (by assumption) (by assumption) (by assumption) ?_)
  all_goals (unfold val; (try simp only [reduceIte, Bool.false_eq_true]); omega)
theorem turn1f (hB : Below A₀ base outer h₀) (hF : Fr h₀ L s.heap m) (hX : (hd02.heap_39 w.params).In h₀) (hN : News h₀ L s.heap news) (hT : Top hd02.view_39 loose mean mg mb h₀) (hk : cs.kind = .function)
    (hm : (lw, wObj a b c d ta tb tc td n) ∈ news) (ha : 0 ≤ a ∧ a < 256) (hb : 0 ≤ b ∧ b < 256) (hc : 0 ≤ c ∧ c < 256) (hd' : 0 ≤ d ∧ d < 256)
    (hd : dp + 1 < recursionLimit) (hret : TurnRet h₀ L m news s Q false (val a b c d) 65536) :
    wpAny (model prog w) (ktrTop dp un gd cn cs L ca ccd cl outer) (call (.ref 41) [.ref lw, .int 1 tp, .bool false]) Q E s := by
  have hz : PySem.Challenge.rw_dm0181_02 = PySem.Challenge.rw_dm0181_02 ∧ hd02.heap_39 = hd02.heap_39 := ⟨rfl, rfl⟩
  revert hz
  k_fill
  w_top off
  intro _
  refine wpAny_call ?_
  k_dflt cell_enter
  k_steps
  all_goals (first | refine turn_end hret (by assumption) (by assumption) (by assumption) (by assumption) ?_ | refine turn_end0 hret (by assumption) (by assumption) (by assumption) (by assumption) ?_)
  all_goals (unfold val; (try simp only [reduceIte, Bool.false_eq_true]); omega)
theorem turn2t (hB : Below A₀ base outer h₀) (hF : Fr h₀ L s.heap m) (hX : (hd02.heap_39 w.params).In h₀) (hN : News h₀ L s.heap news) (hT : Top hd02.view_39 loose mean mg mb h₀) (hk : cs.kind = .function)
    (hm : (lw, wObj a b c d ta tb tc td n) ∈ news) (ha : 0 ≤ a ∧ a < 256) (hb : 0 ≤ b ∧ b < 256) (hc : 0 ≤ c ∧ c < 256) (hd' : 0 ≤ d ∧ d < 256)
    (hd : dp + 1 < recursionLimit) (hret : TurnRet h₀ L m news s Q true (val a b c d) 256) :
    wpAny (model prog w) (ktrTop dp un gd cn cs L ca ccd cl outer) (call (.ref 41) [.ref lw, .int 2 tp, .bool true]) Q E s := by
  have hz : PySem.Challenge.rw_dm0181_02 = PySem.Challenge.rw_dm0181_02 ∧ hd02.heap_39 = hd02.heap_39 := ⟨rfl, rfl⟩
  revert hz
  k_fill
  w_top off
  intro _
  refine wpAny_call ?_
  k_dflt cell_enter
  k_steps
  all_goals (first | refine turn_end hret (by assumption) (by assumption) (by assumption) (by assumption) ?_ | refine turn_end0 hret (by assumption) (by assumption) (by assumption) (by assumption) ?_)
  all_goals (unfold val; (try simp only [reduceIte, Bool.false_eq_true]); omega)
theorem turn2f (hB : Below A₀ base outer h₀) (hF : Fr h₀ L s.heap m) (hX : (hd02.heap_39 w.params).In h₀) (hN : News h₀ L s.heap news) (hT : Top hd02.view_39 loose mean mg mb h₀) (hk : cs.kind = .function)
    (hm : (lw, wObj a b c d ta tb tc td n) ∈ news) (ha : 0 ≤ a ∧ a < 256) (hb : 0 ≤ b ∧ b < 256) (hc : 0 ≤ c ∧ c < 256) (hd' : 0 ≤ d ∧ d < 256)
    (hd : dp + 1 < recursionLimit) (hret : TurnRet h₀ L m news s Q false (val a b c d) 256) :
    wpAny (model prog w) (ktrTop dp un gd cn cs L ca ccd cl outer) (call (.ref 41) [.ref lw, .int 2 tp, .bool false]) Q E s := by
  have hz : PySem.Challenge.rw_dm0181_02 = PySem.Challenge.rw_dm0181_02 ∧ hd02.heap_39 = hd02.heap_39 := ⟨rfl, rfl⟩
  revert hz
  k_fill
  w_top off
  intro _
  refine wpAny_call ?_
  k_dflt cell_enter
  k_steps
  all_goals (first | refine turn_end hret (by assumption) (by assumption) (by assumption) (by assumption) ?_ | refine turn_end0 hret (by assumption) (by assumption) (by assumption) (by assumption) ?_)
  all_goals (unfold val; (try simp only [reduceIte, Bool.false_eq_true]); omega)
theorem turn3t (hB : Below A₀ base outer h₀) (hF : Fr h₀ L s.heap m) (hX : (hd02.heap_39 w.params).In h₀) (hN : News h₀ L s.heap news) (hT : Top hd02.view_39 loose mean mg mb h₀) (hk : cs.kind = .function)
    (hm : (lw, wObj a b c d ta tb tc td n) ∈ news) (ha : 0 ≤ a ∧ a < 256) (hb : 0 ≤ b ∧ b < 256) (hc : 0 ≤ c ∧ c < 256) (hd' : 0 ≤ d ∧ d < 256)
    (hd : dp + 1 < recursionLimit) (hret : TurnRet h₀ L m news s Q true (val a b c d) 1) :
    wpAny (model prog w) (ktrTop dp un gd cn cs L ca ccd cl outer) (call (.ref 41) [.ref lw, .int 3 tp, .bool true]) Q E s := by
  have hz : PySem.Challenge.rw_dm0181_02 = PySem.Challenge.rw_dm0181_02 ∧ hd02.heap_39 = hd02.heap_39 := ⟨rfl, rfl⟩
  revert hz
  k_fill
  w_top off
  intro _
  refine wpAny_call ?_
  k_dflt cell_enter
  k_steps
  all_goals (first | refine turn_end hret (by assumption) (by assumption) (by assumption) (by assumption) ?_ | refine turn_end0 hret (by assumption) (by assumption) (by assumption) (by assumption) ?_)
  all_goals (unfold val; (try simp only [reduceIte, Bool.false_eq_true]); omega)
theorem turn3f (hB : Below A₀ base outer h₀) (hF : Fr h₀ L s.heap m) (hX : (hd02.heap_39 w.params).In h₀) (hN : News h₀ L s.heap news) (hT : Top hd02.view_39 loose mean mg mb h₀) (hk : cs.kind = .function)
    (hm : (lw, wObj a b c d ta tb tc td n) ∈ news) (ha : 0 ≤ a ∧ a < 256) (hb : 0 ≤ b ∧ b < 256) (hc : 0 ≤ c ∧ c < 256) (hd' : 0 ≤ d ∧ d < 256)
    (hd : dp + 1 < recursionLimit) (hret : TurnRet h₀ L m news s Q false (val a b c d) 1) :
    wpAny (model prog w) (ktrTop dp un gd cn cs L ca ccd cl outer) (call (.ref 41) [.ref lw, .int 3 tp, .bool false]) Q E s := by
  have hz : PySem.Challenge.rw_dm0181_02 = PySem.Challenge.rw_dm0181_02 ∧ hd02.heap_39 = hd02.heap_39 := ⟨rfl, rfl⟩
  revert hz
  k_fill
  w_top off
  intro _
  refine wpAny_call ?_
  k_dflt cell_enter
  k_steps
  all_goals (first | refine turn_end hret (by assumption) (by assumption) (by assumption) (by assumption) ?_ | refine turn_end0 hret (by assumption) (by assumption) (by assumption) (by assumption) ?_)
  all_goals (unfold val; (try simp only [reduceIte, Bool.false_eq_true]); omega)
theorem turn_ok {place : Int} {up : Bool} (hB : Below A₀ base outer h₀) (hF : Fr h₀ L s.heap m) (hX : (hd02.heap_39 w.params).In h₀) (hN : News h₀ L s.heap news) (hT : Top hd02.view_39 loose mean mg mb h₀) (hk : cs.kind = .function)
    (hm : (lw, wObj a b c d ta tb tc td n) ∈ news) (ha : 0 ≤ a ∧ a < 256) (hb : 0 ≤ b ∧ b < 256) (hc : 0 ≤ c ∧ c < 256) (hd' : 0 ≤ d ∧ d < 256) (hp : 0 ≤ place ∧ place < 4)
    (hd : dp + 1 < recursionLimit) (hret : TurnRet h₀ L m news s Q up (val a b c d) (256 ^ (3 - place).toNat)) :
    wpAny (model prog w) (ktrTop dp un gd cn cs L ca ccd cl outer) (call (.ref 41) [.ref lw, .int place tp, .bool up]) Q E s := by
  have h4 : place = 0 ∨ place = 1 ∨ place = 2 ∨ place = 3 := by omega
  rcases h4 with rfl | rfl | rfl | rfl <;> cases up
  · exact turn0f hB hF hX hN hT hk hm ha hb hc hd' hd hret
  · exact turn0t hB hF hX hN hT hk hm ha hb hc hd' hd hret
  · exact turn1f hB hF hX hN hT hk hm ha hb hc hd' hd hret
  · exact turn1t hB hF hX hN hT hk hm ha hb hc hd' hd hret
  · exact turn2f hB hF hX hN hT hk hm ha hb hc hd' hd hret
  · exact turn2t hB hF hX hN hT hk hm ha hb hc hd' hd hret
  · exact turn3f hB hF hX hN hT hk hm ha hb hc hd' hd hret
  · exact turn3t hB hF hX hN hT hk hm ha hb hc hd' hd hret
end
end
-- Q0
section
section
variable {prog : Program} {w : World} {A : Around} {E : Value → Shared → Prop} {s : Shared} {env : Env} {h₀ : Heap} {x : Str} {body : List Stmt} {Q : Flow → Shared → Prop} {m₀ : Str → Option Value} {news : List (Addr × Obj)} {σ : Type}
/-- a loop over a list of ints that turns names of the frame alone: the whole ledger stands -/
theorem loop_list {l : Addr} {vs : List Value} {ns : List Int} {nn : Nat} (ps : σ → List (Str × Value)) (Facts : List (Addr × Obj) → σ → Prop) (stored : List Str) (P : List Int → σ → Prop) (c₀ : σ)
    (hh : A.handled = none) (hl : (l, W.listOf vs.toArray nn) ∈ news) (hi : IntsAre vs ns) (F : Fr h₀ env.locals s.heap m₀) (N : News h₀ env.locals s.heap news) (hf : Facts news c₀) (hk : ∀ p ∈ ps c₀, m₀ p.1 = some p.2) (hp : P [] c₀)
    (turn : ∀ (c : σ) tl pre post n t (u : Str → Option Value) h tk own, ns = pre ++ n :: post → n ∈ ns → KdSep own tl (news.map (·.1)) → OwnOff (tl ++ own) (news.map (·.1)) → Facts (news ++ tl) c → P pre c →
      Fr h₀ env.locals h (fun y => if y = x then some (.int n t) else kstB (fun z => if stored.contains z then u z else m₀ z) (ps c) y) → News h₀ env.locals h (news ++ (tl ++ own)) →
      wpAny (model prog w) A (execs body env) (InvPostG h₀ env.locals (KdS (fun _ => []) news ps Facts x stored m₀ P (news.map (·.1)) (pre ++ [n])) own { s with heap := h, toks := tk } Q) E { s with heap := h, toks := tk })
    (done : ∀ (c : σ) tl (u : Str → Option Value) h tk, OwnOff tl (news.map (·.1)) → Facts (news ++ tl) c → P ns c → Fr h₀ env.locals h (fun y => if y = x then u y else kstB (fun z => if stored.contains z then u z else m₀ z) (ps c) y) → News h₀ env.locals h (news ++ tl) → Q .next { s with heap := h, toks := tk }) :
    wpAny (model prog w) A (pyIter (.ref l)) (fun it s₂ => LoopAtV prog w A h₀ env x body Q E it s₂) E s :=
  kd_listI (fun _ => []) news ps Facts stored P (news.map (·.1)) c₀ hh hl hi F N (fun p hp => by simpa using hp) (fun _ => rfl) (by rw [List.append_nil]; exact hf) hk hp turn done
theorem loop_range {r : Addr} {a₀ b₀ : Int} {t₀ u₀ v₀ : Tok} {n : Nat} (ps : σ → List (Str × Value)) (Facts : List (Addr × Obj) → σ → Prop) (stored : List Str) (P : List Int → σ → Prop) (c₀ : σ)
    (hh : A.handled = none) (hr : IsRange s.heap r a₀ b₀ 1 t₀ u₀ v₀) (hsmall : Builtin.Range.small a₀ b₀ 1 = true) (hsz : Builtin.Range.rangeSize a₀ b₀ 1 = (n : Int)) (F : Fr h₀ env.locals s.heap m₀) (N : News h₀ env.locals s.heap news) (hf : Facts news c₀) (hk : ∀ p ∈ ps c₀, m₀ p.1 = some p.2) (hp : P [] c₀)
    (turn : ∀ (c : σ) tl (pre : List Int) (k : Int) t (u : Str → Option Value) h tk own, k = a₀ + (pre.length : Int) → pre.length < n → KdSep own tl (news.map (·.1)) → OwnOff (tl ++ own) (news.map (·.1)) → Facts (news ++ tl) c → P pre c →
      Fr h₀ env.locals h (fun y => if y = x then some (.int k t) else kstB (fun z => if stored.contains z then u z else m₀ z) (ps c) y) → News h₀ env.locals h (news ++ (tl ++ own)) →
      wpAny (model prog w) A (execs body env) (InvPostG h₀ env.locals (KdS (fun _ => []) news ps Facts x stored m₀ P (news.map (·.1)) (pre ++ [k])) own { s with heap := h, toks := tk } Q) E { s with heap := h, toks := tk })
    (done : ∀ (c : σ) tl (u : Str → Option Value) h tk, OwnOff tl (news.map (·.1)) → Facts (news ++ tl) c → P (rangeKs a₀ n) c → Fr h₀ env.locals h (fun y => if y = x then u y else kstB (fun z => if stored.contains z then u z else m₀ z) (ps c) y) → News h₀ env.locals h (news ++ tl) → Q .next { s with heap := h, toks := tk }) :
    wpAny (model prog w) A (pyIter (.ref r)) (fun it s₂ => LoopAtV prog w A h₀ env x body Q E it s₂) E s :=
  kd_range (fun _ => []) news ps Facts stored P (news.map (·.1)) c₀ hh hr hsmall hsz F N (fun p hp => by simpa using hp) (fun _ => rfl) (by rw [List.append_nil]; exact hf) hk hp turn done
end
def WheelsIn (L9 : List (Addr × Obj)) (v : Value) (num : Int) : Prop :=
  ∃ lw a b c d ta tb tc td n, v = .ref lw ∧ (lw, wObj a b c d ta tb tc td n) ∈ L9 ∧ (0 ≤ a ∧ a < 256) ∧ (0 ≤ b ∧ b < 256) ∧ (0 ≤ c ∧ c < 256) ∧ (0 ≤ d ∧ d < 256) ∧ num = val a b c d
theorem mem_mid {p : Addr × Obj} {a b c : List (Addr × Obj)} (h : p ∈ a ++ b) : p ∈ a ++ (b ++ c) := by
  rcases List.mem_append.mp h with h | h
  · exact List.mem_append_left _ h
  · exact List.mem_append_right _ (List.mem_append_left _ h)
theorem val_bounds {a b c d : Int} (ha : 0 ≤ a ∧ a < 256) (hb : 0 ≤ b ∧ b < 256) (hc : 0 ≤ c ∧ c < 256) (hd : 0 ≤ d ∧ d < 256) : 0 ≤ val a b c d ∧ val a b c d < 4294967296 := by unfold val; omega
theorem byte_is {x y : Int} (_ : 0 ≤ y) (_ : y < 256) (e : x % 256 = y) : byteAt x = y.toNat.toUInt8 := by
  unfold byteAt
  rw [e]
theorem pack_val {a b c d : Int} (ha : 0 ≤ a ∧ a < 256) (hb : 0 ≤ b ∧ b < 256) (hc : 0 ≤ c ∧ c < 256) (hd : 0 ≤ d ∧ d < 256) : byteArr [a, b, c, d] = pack (val a b c d) := by
  have e1 : val a b c d / 16777216 % 256 = a := by unfold val; omega
  have e2 : val a b c d / 65536 % 256 = b := by unfold val; omega
  have e3 : val a b c d / 256 % 256 = c := by unfold val; omega
  have e4 : val a b c d % 256 = d := by unfold val; omega
  unfold pack
  rw [byte_is ha.1 ha.2 e1, byte_is hb.1 hb.2 e2, byte_is hc.1 hc.2 e3, byte_is hd.1 hd.2 e4]
  rfl
section
variable {prog : Program} {w : World} {A : Around} {E : Value → Shared → Prop} {s : Shared} {h₀ : Heap} {L D : Addr} {m : Str → Option Value} {news : List (Addr × Obj)} {a b c d k : Int} {ta tb tc td t u : Tok} {n : Nat} {Q : Value → Shared → Prop}
theorem bytes_w (F : Fr h₀ L s.heap m) (N : News h₀ L s.heap news) (hh : A.handled = none) (hm : (D, wObj a b c d ta tb tc td n) ∈ news) (ha : 0 ≤ a ∧ a < 256) (hb : 0 ≤ b ∧ b < 256) (hc : 0 ≤ c ∧ c < 256) (hd : 0 ≤ d ∧ d < 256)
    (h : ∀ h' t' k', Fr h₀ L h' m → News h₀ L h' news → Q (.bytes (pack (val a b c d)) t') { s with heap := h', toks := k' }) : wpAny (model prog w) A (call (.type "bytes") [.ref D]) Q E s := by
  have hl : s.heap.IsList D [Value.int a ta, .int b tb, .int c tc, .int d td].toArray := ⟨_, (N _ hm).1, rfl, n, rfl⟩
  refine KBa.make_K (ns := [a, b, c, d]) F N hh hl (.cons _ _ (.cons _ _ (.cons _ _ (.cons _ _ .nil)))) ?_ (by simp) fun h' t' k' F' N' _ => ?_
  · intro x hx
    simp only [List.mem_cons, List.not_mem_nil, or_false] at hx
    rcases hx with rfl | rfl | rfl | rfl
    · exact ha
    · exact hb
    · exact hc
    · exact hd
  · rw [pack_val ha hb hc hd]
    exact h h' t' k' F' N'
theorem ne_pack {x y : Int} (e : x = y) (h : Q (.bool false) s) : wpAny (model prog w) A (compareOp .NotEq (.bytes (pack x) t) (.bytes (pack y) u)) Q E s := by
  subst e
  refine ne_bytes ?_
  have e : ((pack x).toList != (pack x).toList) = false := by simp
  rw [e]
  exact h
theorem pow_256 (h0 : 0 ≤ k) (h1 : k ≤ 3) (h : Q (.int (256 ^ k.toNat) s.toks) { s with toks := s.toks + 1 }) : wpAny (model prog w) A (binaryOp .Pow (.int 256 t) (.int k u)) Q E s :=
  pow_int_small h0 (by omega) (by decide) h
end
section
variable {σ : Type} {h₀ : Heap} {L D : Addr} {o : Obj} {news tl own news' : List (Addr × Obj)} {ps : σ → List (Str × Value)} {Facts : List (Addr × Obj) → σ → Prop} {x : Str} {stored : List Str} {m₀ m' : Str → Option Value} {P : List Int → σ → Prop} {pre : List Int} {s₁ : Shared} {h' : Heap} {tk : Nat}
/-- a turn's end: one object more is kept -/
theorem end_one (c : σ) (hS : KdSep own tl (news.map (·.1))) (F : Fr h₀ L h' m') (N : News h₀ L h' news') (hsub : ∀ p ∈ (D, o) :: (news ++ (tl ++ own)), p ∈ news') (hD : ∀ q ∈ news ++ (tl ++ own), q.1 < D)
    (hk : ∀ p ∈ ps c, m' p.1 = some p.2) (hr : ∀ z, z ≠ x → (∀ p ∈ ps c, z ≠ p.1) → stored.contains z = false → m' z = m₀ z) (hf : Facts (news ++ ([(D, o)] ++ tl)) c) (hp : P pre c) :
    InvEndG h₀ L (KdS (fun _ => []) news ps Facts x stored m₀ P (news.map (·.1)) pre) own s₁ { s₁ with heap := h', toks := tk } := by
  refine kd_end c [(D, o)] hS F N (fun p hp => ?_) (fun p hp => ?_) rfl (fun q hq b hb => ?_) (fun q hq p hp => ?_) hk hr hf hp
  · rw [List.nil_append] at hp
    rcases List.mem_append.mp hp with hp | hp
    · exact hsub p (.tail _ (List.mem_append_left _ hp))
    · rcases List.mem_append.mp hp with hp | hp
      · rw [List.mem_singleton.mp hp]
        exact hsub _ (.head _)
      · exact hsub p (.tail _ (List.mem_append_right _ (List.mem_append_left _ hp)))
  · exact hsub p (.tail _ (List.mem_append_right _ (List.mem_append_right _ hp)))
  · rw [List.mem_singleton.mp hq]
    obtain ⟨p, hp, rfl⟩ := List.mem_map.mp hb
    exact Nat.ne_of_lt (hD p (List.mem_append_left _ hp))
  · rw [List.mem_singleton.mp hq]
    exact Nat.ne_of_lt (hD p (List.mem_append_right _ (List.mem_append_right _ hp)))
/-- an outer turn's end: what an inner loop has kept -/
theorem end_all {add : List (Addr × Obj)} (c : σ) (hS : KdSep own tl (news.map (·.1))) (hO : OwnOff add ((news ++ (tl ++ own)).map (·.1))) (F : Fr h₀ L h' m') (N : News h₀ L h' (news ++ (tl ++ own) ++ add))
    (hk : ∀ p ∈ ps c, m' p.1 = some p.2) (hr : ∀ z, z ≠ x → (∀ p ∈ ps c, z ≠ p.1) → stored.contains z = false → m' z = m₀ z) (hf : Facts (news ++ (add ++ tl)) c) (hp : P pre c) :
    InvEndG h₀ L (KdS (fun _ => []) news ps Facts x stored m₀ P (news.map (·.1)) pre) own s₁ { s₁ with heap := h', toks := tk } := by
  refine kd_end c add hS F N (fun p hp => ?_) (fun p hp => ?_) rfl (fun q hq b hb => ?_) (fun q hq p hp => ?_) hk hr hf hp
  · rw [List.nil_append] at hp
    rcases List.mem_append.mp hp with hp | hp
    · exact List.mem_append_left _ (List.mem_append_left _ hp)
    · rcases List.mem_append.mp hp with hp | hp
      · exact List.mem_append_right _ hp
      · exact List.mem_append_left _ (List.mem_append_right _ (List.mem_append_left _ hp))
  · exact List.mem_append_left _ (List.mem_append_right _ (List.mem_append_right _ hp))
  · obtain ⟨p, hp, rfl⟩ := List.mem_map.mp hb
    exact Ne.symm (hO q hq p.1 (List.mem_map.mpr ⟨p, List.mem_append_left _ hp, rfl⟩))
  · exact Ne.symm (hO q hq p.1 (List.mem_map.mpr ⟨p, List.mem_append_right _ (List.mem_append_right _ hp), rfl⟩))
theorem WheelsIn.mono {L9 L8 : List (Addr × Obj)} {v : Value} {num : Int} (h : WheelsIn L9 v num) (hs : ∀ p ∈ L9, p ∈ L8) : WheelsIn L8 v num := by
  obtain ⟨lw, a, b, c, d, ta, tb, tc, td, n, hv, hm, r⟩ := h
  exact ⟨lw, a, b, c, d, ta, tb, tc, td, n, hv, hs _ hm, r⟩
end
def WheelsOff (own : List (Addr × Obj)) (v : Value) : Prop := ∀ lw, v = .ref lw → ∀ p ∈ own, p.1 ≠ lw
theorem off_start {own tl news : List (Addr × Obj)} {lw : Addr} {o : Obj} (hS : KdSep own tl (news.map (·.1))) (hm : (lw, o) ∈ news ++ tl) : WheelsOff own (.ref lw) := by
  intro l e p hp
  obtain rfl : lw = l := Value.ref.inj e
  rcases List.mem_append.mp hm with h | h
  · exact hS.one p hp lw (List.mem_map.mpr ⟨_, h, rfl⟩)
  · exact hS.two p hp lw (List.mem_map.mpr ⟨_, h, rfl⟩)
theorem off_above {own nl : List (Addr × Obj)} {D : Addr} (hD : ∀ q ∈ nl, q.1 < D) (hs : ∀ p ∈ own, p ∈ nl) : WheelsOff own (.ref D) := by
  intro l e p hp
  obtain rfl : D = l := Value.ref.inj e
  exact Nat.ne_of_lt (hD p (hs p hp))
theorem wheels_back {news tl own add : List (Addr × Obj)} {v : Value} {num : Int} (h : WheelsIn (news ++ (tl ++ own) ++ add) v num) (ho : WheelsOff own v) : WheelsIn (news ++ (add ++ tl)) v num := by
  obtain ⟨lw, a, b, c, d, ta, tb, tc, td, n, rfl, hm, r⟩ := h
  refine ⟨lw, a, b, c, d, ta, tb, tc, td, n, rfl, ?_, r⟩
  rcases List.mem_append.mp hm with h | h
  · rcases List.mem_append.mp h with h | h
    · exact List.mem_append_left _ h
    · rcases List.mem_append.mp h with h | h
      · exact List.mem_append_right _ (List.mem_append_right _ h)
      · exact absurd rfl (ho lw rfl _ h)
  · exact List.mem_append_right _ (List.mem_append_left _ h)
end
-- M2
section
local macro_rules | `(tactic| walk_at "exec For Name BinOp cons nil") => `(tactic| (k_here; (rename Fr _ _ _ _ => lF'); (with_unfolding_all refine' For_invVF lF' ?k1 ?k2 ?_; (case k1 => exact rfl); (case k2 => exact rfl); k_whole)))
local macro_rules | `(tactic| walk_at "binaryOp FloorDiv int int") => `(tactic| (with_reducible refine div_lit (by decide) (by decide +kernel) ?_))
local macro_rules | `(tactic| walk_at "binaryOp Mod int int") => `(tactic| (with_reducible refine mod_lit (by decide) ?_))
local macro_rules | `(tactic| walk_at "binaryOp Pow int int") => `(tactic| (with_reducible refine pow_256 (by assumption) (by assumption) ?_))
local macro_rules | `(tactic| walk_at "call ref") => `(tactic| (k_here; (with_reducible show wpAny _ _ (call (Value.ref 34) [Value.int _ _]) _ _ _); k_dflt (refine' packed_ok2 ?k1 ?k2 ?k3 ?k4 ?k5 ?kK ?k6 ?k7 ?kd ?_; (case k1 => k_asm); (case k2 => k_asm); (case k3 => k_asm); (case k4 => k_asm); (case k5 => k_asm); (case kK => exact rfl); (case k6 => assumption); (case k7 => assumption); (case kd => decide); k_whole); intro t9 h9 tk9 F9 N9; (try dsimp only)))
local macro_rules | `(tactic| walk_at "call ref") => `(tactic| (k_here; (with_reducible show wpAny _ _ (call (Value.ref 48) [Value.int _ _]) _ _ _); k_dflt (refine' words_ok ?k2 ?k3 ?k4 ?k5 ?kK ?k6 ?_; (case k2 => k_asm); (case k3 => k_asm); (case k4 => k_asm); (case k5 => k_asm); (case kK => exact rfl); (case k6 => assumption); k_whole); intro t9 h9 tk9 F9 N9; (try dsimp only)))
local macro_rules | `(tactic| walk_at "call type:bytes") => `(tactic| (k_here; (with_reducible show wpAny _ _ (call (Value.type "bytes") [Value.ref _]) _ _ _); k_dflt (refine' bytes_w ?F ?N ?hh ?hm ?a ?b ?c ?d ?_; (case F => k_asm); (case N => k_asm); (case hh => exact rfl); (case hm => k_mem); (case a => exact ⟨by assumption, by assumption⟩); (case b => exact ⟨by assumption, by assumption⟩); (case c => exact ⟨by assumption, by assumption⟩); (case d => exact ⟨by assumption, by assumption⟩); k_whole); intro h' t' k' F' N'; (try dsimp only)))
local macro_rules | `(tactic| walk_at "compareOp NotEq bytes bytes") => `(tactic| (with_reducible refine ne_pack (by assumption) ?_))
theorem law2 : PySem.Challenge.rw_dm0181_02.Holds := hd02 (by
  k_go0
  (all_goals try k_fold)
  iterate 36 (first | (k_unfold; (try dsimp only)) | (k_end; kc_close) | walk1 | (dsimp only; walk1) | (leave1; walk_say "STEP leave1"; (try dsimp only)))
  rename Fr _ _ _ _ => lF
  rename News _ _ _ _ => lN
  refine' loop_list (σ := Value × Int × Tok) (fun c => [(PySem.Str.ofString "wheels", c.1), (PySem.Str.ofString "number", Value.int c.2.1 c.2.2)]) (fun L9 c => WheelsIn L9 c.1 c.2.1)
    [PySem.Str.ofString "rest", PySem.Str.ofString "step", PySem.Str.ofString "place", PySem.Str.ofString "up", PySem.Str.ofString "over", PySem.Str.ofString "unit", PySem.Str.ofString "told"] (fun _ _ => True) (_, _, _) rfl ?hl ?hi lF lN ?hf ?hk trivial ?turn ?done
  case hl => k_memK
  case hi => assumption
  case hk => exact List.forall_mem_cons.mpr ⟨by with_unfolding_all rfl, List.forall_mem_cons.mpr ⟨by with_unfolding_all rfl, List.forall_mem_nil _⟩⟩
  case hf => exact ⟨_, 0, 0, 0, 0, _, _, _, _, _, rfl, by k_memK, by decide, by decide, by decide, by decide, rfl⟩
  case turn =>
    clear lF lN
    intro c tl pre post n t u h tk own hEq hMem hSep hO4 hFacts _ hFr hNe
    obtain ⟨v, num, tok⟩ := c
    obtain ⟨lw, a, b, c, d, ta, tb, tc, td, nw, hv, hm, ha, hb, hc, hd, hnum⟩ := hFacts
    have kMark := kdMark
    dsimp only at *
    subst hv
    have hm' := mem_mid (c := own) hm
    have hoff := off_start hSep hm
    generalize hg : ([_, _, _, _] : List (Addr × Obj)) = nw0 at *
    generalize hnl : nw0 ++ (tl ++ own) = nl at hNe hm'
    clear hm hMem hEq
    try k_fold
    iterate 13 (first | (k_unfold; (try dsimp only)) | (k_end; kc_close) | walk1 | (dsimp only; walk1) | (leave1; walk_say "STEP leave1"; (try dsimp only)))
    rename Fr _ _ _ _ => lF
    rename News _ _ _ _ => lN
    rename IsRange _ _ _ _ _ _ _ _ => rg
    refine' loop_range (σ := Value × Int × Tok × Int × Tok) (n := 12) (fun c => [(PySem.Str.ofString "wheels", c.1), (PySem.Str.ofString "number", Value.int c.2.1 c.2.2.1), (PySem.Str.ofString "rest", Value.int c.2.2.2.1 c.2.2.2.2)]) (fun L9 c => WheelsIn L9 c.1 c.2.1 ∧ WheelsOff own c.1)
      [PySem.Str.ofString "place", PySem.Str.ofString "up", PySem.Str.ofString "over", PySem.Str.ofString "unit", PySem.Str.ofString "told"] (fun _ _ => True) (_, _, _, _, _) rfl rg ?hs ?hz lF lN ?hf ?hk trivial ?turn2 ?done2
    case hs => decide
    case hz => decide
    case hk => exact List.forall_mem_cons.mpr ⟨by with_unfolding_all rfl, List.forall_mem_cons.mpr ⟨by with_unfolding_all rfl, List.forall_mem_cons.mpr ⟨by with_unfolding_all rfl, List.forall_mem_nil _⟩⟩⟩
    case hf => exact ⟨⟨_, a, b, c, d, _, _, _, _, _, rfl, hm', ha, hb, hc, hd, hnum⟩, hoff⟩
    case turn2 =>
      clear lF lN
      intro c2 tl2 pre2 k2 t2 u2 h2 tk2 own2 hEq2 hLt2 hSep2 hO2 hFacts2 _ hFr2 hNe2
      obtain ⟨v2, num2, tok2, rest2, tokr2⟩ := c2
      obtain ⟨⟨lw2, a2, b2, c2, d2, ta2, tb2, tc2, td2, nw2, hv2, hm2, ha2, hb2, hc2, hd2, hnum2⟩, hoff2⟩ := hFacts2
      dsimp only at *
      subst hv2
      have hm2' := mem_mid (c := own2) hm2
      generalize hnl2 : nl ++ (tl2 ++ own2) = nl2 at hNe2 hm2'
      clear hm2
      try k_fold
      iterate 40 (first | (k_unfold; (try dsimp only)) | (k_end; kc_close) | walk1 | (dsimp only; walk1) | (leave1; walk_say "STEP leave1"; (try dsimp only)))
      k_dflt (refine' turn_ok ?k1 ?k2 ?k3 ?k4 ?k5 ?kK hm2' ha2 hb2 hc2 hd2 ?kp ?kd ?_; (case k1 => k_asm); (case k2 => k_asm); (case k3 => k_asm); (case k4 => k_asm); (case k5 => k_asm); (case kK => exact rfl); (case kp => omega); (case kd => decide))
      intro T D n' a' b' c' d' over ta' tb' tc' td' h' tk' xa0 xa1 xb0 xb1 xc0 xc1 xd0 xd1 hval F3 N3 hD hDT
      generalize hup : (rest2 / 4 % 2 == 1) = up at *
      have hp0 : 0 ≤ 3 - rest2 % 4 := by omega
      have hp1 : 3 - rest2 % 4 ≤ 3 := by omega
      subst hnum2
      have hva := val_bounds ⟨xa0, xa1⟩ ⟨xb0, xb1⟩ ⟨xc0, xc1⟩ ⟨xd0, xd1⟩
      cases up <;> cases over <;> simp only [reduceIte, Bool.false_eq_true] at hval
      · have hn : val a2 b2 c2 d2 - 256 ^ (3 - rest2 % 4).toNat = val a' b' c' d' := hval.symm
        have hi0 : 0 ≤ val a2 b2 c2 d2 - 256 ^ (3 - rest2 % 4).toNat := by rw [hn]; exact hva.1
        have hi1 : val a2 b2 c2 d2 - 256 ^ (3 - rest2 % 4).toNat < 4294967296 := by rw [hn]; exact hva.2
        iterate 84 (first | (k_unfold; (try dsimp only)) | (k_end; kc_close) | walk1 | (dsimp only; walk1) | (leave1; walk_say "STEP leave1"; (try dsimp only)))
        unfold InvPostG
        dsimp only
        subst hnl2
        refine' end_one (D := D) (o := wObj a' b' c' d' ta' tb' tc' td' n') (_, _, _, _, _) hSep2 ?F ?N ?sub hD ?hk ?hr ?hf trivial
        case F => assumption
        case N => assumption
        case sub => exact fun p hp => List.Mem.tail _ hp
        case hk => exact List.forall_mem_cons.mpr ⟨by with_unfolding_all rfl, List.forall_mem_cons.mpr ⟨by with_unfolding_all rfl, List.forall_mem_cons.mpr ⟨by with_unfolding_all rfl, List.forall_mem_nil _⟩⟩⟩
        case hr =>
          intro z h1 h2 h3
          simp only [List.forall_mem_cons, List.not_mem_nil, false_implies, implies_true, and_true, ne_eq] at h2
          simp only [List.contains_cons, List.contains_nil, Bool.or_false, Bool.or_eq_false_iff, beq_eq_false_iff_ne, ne_eq] at h3
          simp [h1, h2, h3, kstB]
        case hf => exact ⟨⟨D, a', b', c', d', _, _, _, _, _, rfl, List.mem_append_right _ (.head _), ⟨xa0, xa1⟩, ⟨xb0, xb1⟩, ⟨xc0, xc1⟩, ⟨xd0, xd1⟩, hn⟩, off_above hD (fun p hp => List.mem_append_left _ (hnl ▸ List.mem_append_right _ (List.mem_append_right _ hp)))⟩
      · have hn : val a2 b2 c2 d2 - 256 ^ (3 - rest2 % 4).toNat + 4294967296 = val a' b' c' d' := hval.symm
        have hi0 : 0 ≤ val a2 b2 c2 d2 - 256 ^ (3 - rest2 % 4).toNat + 4294967296 := by rw [hn]; exact hva.1
        have hi1 : val a2 b2 c2 d2 - 256 ^ (3 - rest2 % 4).toNat + 4294967296 < 4294967296 := by rw [hn]; exact hva.2
        have hout : val a2 b2 c2 d2 - 256 ^ (3 - rest2 % 4).toNat < 0 ∨ 4294967296 ≤ val a2 b2 c2 d2 - 256 ^ (3 - rest2 % 4).toNat := by omega
        iterate 113 (first | (k_unfold; (try dsimp only)) | (k_end; kc_close) | walk1 | (dsimp only; walk1) | (leave1; walk_say "STEP leave1"; (try dsimp only)))
        unfold InvPostG
        dsimp only
        subst hnl2
        refine' end_one (D := D) (o := wObj a' b' c' d' ta' tb' tc' td' n') (_, _, _, _, _) hSep2 ?F ?N ?sub hD ?hk ?hr ?hf trivial
        case F => assumption
        case N => assumption
        case sub => exact fun p hp => List.Mem.tail _ hp
        case hk => exact List.forall_mem_cons.mpr ⟨by with_unfolding_all rfl, List.forall_mem_cons.mpr ⟨by with_unfolding_all rfl, List.forall_mem_cons.mpr ⟨by with_unfolding_all rfl, List.forall_mem_nil _⟩⟩⟩
        case hr =>
          intro z h1 h2 h3
          simp only [List.forall_mem_cons, List.not_mem_nil, false_implies, implies_true, and_true, ne_eq] at h2
          simp only [List.contains_cons, List.contains_nil, Bool.or_false, Bool.or_eq_false_iff, beq_eq_false_iff_ne, ne_eq] at h3
          simp [h1, h2, h3, kstB]
        case hf => exact ⟨⟨D, a', b', c', d', _, _, _, _, _, rfl, List.mem_append_right _ (.head _), ⟨xa0, xa1⟩, ⟨xb0, xb1⟩, ⟨xc0, xc1⟩, ⟨xd0, xd1⟩, hn⟩, off_above hD (fun p hp => List.mem_append_left _ (hnl ▸ List.mem_append_right _ (List.mem_append_right _ hp)))⟩
      · have hn : val a2 b2 c2 d2 + 256 ^ (3 - rest2 % 4).toNat = val a' b' c' d' := hval.symm
        have hi0 : 0 ≤ val a2 b2 c2 d2 + 256 ^ (3 - rest2 % 4).toNat := by rw [hn]; exact hva.1
        have hi1 : val a2 b2 c2 d2 + 256 ^ (3 - rest2 % 4).toNat < 4294967296 := by rw [hn]; exact hva.2
        iterate 84 (first | (k_unfold; (try dsimp only)) | (k_end; kc_close) | walk1 | (dsimp only; walk1) | (leave1; walk_say "STEP leave1"; (try dsimp only)))
        unfold InvPostG
        dsimp only
        subst hnl2
        refine' end_one (D := D) (o := wObj a' b' c' d' ta' tb' tc' td' n') (_, _, _, _, _) hSep2 ?F ?N ?sub hD ?hk ?hr ?hf trivial
        case F => assumption
        case N => assumption
        case sub => exact fun p hp => List.Mem.tail _ hp
        case hk => exact List.forall_mem_cons.mpr ⟨by with_unfolding_all rfl, List.forall_mem_cons.mpr ⟨by with_unfolding_all rfl, List.forall_mem_cons.mpr ⟨by with_unfolding_all rfl, List.forall_mem_nil _⟩⟩⟩
        case hr =>
          intro z h1 h2 h3
          simp only [List.forall_mem_cons, List.not_mem_nil, false_implies, implies_true, and_true, ne_eq] at h2
          simp only [List.contains_cons, List.contains_nil, Bool.or_false, Bool.or_eq_false_iff, beq_eq_false_iff_ne, ne_eq] at h3
          simp [h1, h2, h3, kstB]
        case hf => exact ⟨⟨D, a', b', c', d', _, _, _, _, _, rfl, List.mem_append_right _ (.head _), ⟨xa0, xa1⟩, ⟨xb0, xb1⟩, ⟨xc0, xc1⟩, ⟨xd0, xd1⟩, hn⟩, off_above hD (fun p hp => List.mem_append_left _ (hnl ▸ List.mem_append_right _ (List.mem_append_right _ hp)))⟩
      · have hn : val a2 b2 c2 d2 + 256 ^ (3 - rest2 % 4).toNat - 4294967296 = val a' b' c' d' := hval.symm
        have hi0 : 0 ≤ val a2 b2 c2 d2 + 256 ^ (3 - rest2 % 4).toNat - 4294967296 := by rw [hn]; exact hva.1
        have hi1 : val a2 b2 c2 d2 + 256 ^ (3 - rest2 % 4).toNat - 4294967296 < 4294967296 := by rw [hn]; exact hva.2
        have hout : val a2 b2 c2 d2 + 256 ^ (3 - rest2 % 4).toNat < 0 ∨ 4294967296 ≤ val a2 b2 c2 d2 + 256 ^ (3 - rest2 % 4).toNat := by omega
        iterate 113 (first | (k_unfold; (try dsimp only)) | (k_end; kc_close) | walk1 | (dsimp only; walk1) | (leave1; walk_say "STEP leave1"; (try dsimp only)))
        unfold InvPostG
        dsimp only
        subst hnl2
        refine' end_one (D := D) (o := wObj a' b' c' d' ta' tb' tc' td' n') (_, _, _, _, _) hSep2 ?F ?N ?sub hD ?hk ?hr ?hf trivial
        case F => assumption
        case N => assumption
        case sub => exact fun p hp => List.Mem.tail _ hp
        case hk => exact List.forall_mem_cons.mpr ⟨by with_unfolding_all rfl, List.forall_mem_cons.mpr ⟨by with_unfolding_all rfl, List.forall_mem_cons.mpr ⟨by with_unfolding_all rfl, List.forall_mem_nil _⟩⟩⟩
        case hr =>
          intro z h1 h2 h3
          simp only [List.forall_mem_cons, List.not_mem_nil, false_implies, implies_true, and_true, ne_eq] at h2
          simp only [List.contains_cons, List.contains_nil, Bool.or_false, Bool.or_eq_false_iff, beq_eq_false_iff_ne, ne_eq] at h3
          simp [h1, h2, h3, kstB]
        case hf => exact ⟨⟨D, a', b', c', d', _, _, _, _, _, rfl, List.mem_append_right _ (.head _), ⟨xa0, xa1⟩, ⟨xb0, xb1⟩, ⟨xc0, xc1⟩, ⟨xd0, xd1⟩, hn⟩, off_above hD (fun p hp => List.mem_append_left _ (hnl ▸ List.mem_append_right _ (List.mem_append_right _ hp)))⟩
    case done2 =>
      clear lF lN
      intro c2 tl2 u2 h2 tk2 hO2 hFacts2 _ hFr2 hNe2
      obtain ⟨v2, num2, tok2, rest2, tokr2⟩ := c2
      obtain ⟨hw2, hoff2⟩ := hFacts2
      dsimp only at *
      iterate 1 (first | (k_unfold; (try dsimp only)) | (k_end; kc_close) | walk1 | (dsimp only; walk1) | (leave1; walk_say "STEP leave1"; (try dsimp only)))
      unfold InvPostG
      dsimp only
      subst hnl
      refine' end_all (add := tl2) (_, _, _) hSep hO2 ?F ?N ?hk ?hr ?hf trivial
      case F => assumption
      case N => assumption
      case hk => exact List.forall_mem_cons.mpr ⟨by with_unfolding_all rfl, List.forall_mem_cons.mpr ⟨by with_unfolding_all rfl, List.forall_mem_nil _⟩⟩
      case hr =>
        intro z h1 h2 h3
        simp only [List.forall_mem_cons, List.not_mem_nil, false_implies, implies_true, and_true, ne_eq] at h2
        simp only [List.contains_cons, List.contains_nil, Bool.or_false, Bool.or_eq_false_iff, beq_eq_false_iff_ne, ne_eq] at h3
        simp [h1, h2, h3, kstB]
      case hf => exact wheels_back hw2 hoff2
  case done =>
    clear lF lN
    intro c tl u h tk hO hFacts _ hFr hNe
    dsimp only at *
    try k_fold
    k_steps)
end
end Mine
theorem PySem.Challenge.cw_dm0181_02_holds : PySem.Challenge.rw_dm0181_02.Holds := by
  exact Mine.law2
