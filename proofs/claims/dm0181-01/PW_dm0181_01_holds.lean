import PyProof.Rows.All
import Wide.All
import OpenK.AllK
import Wide.FinOn
import PySem.Challenge.RW_dm0181_01
open PySem PySem.W PyProof.Rows PySem.Calls
set_option Elab.async false
set_option maxRecDepth 100000
set_option maxHeartbeats 8000000
namespace Mine
-- B0
section
open PySem.Builtin.Int (intBits)
def byteAt (n : Int) : UInt8 := UInt8.ofNat (n % 256).toNat
def pack (n : Int) : Array UInt8 := #[byteAt (n / 16777216), byteAt (n / 65536), byteAt (n / 256), byteAt n]

theorem pack_low {x : Int} (h0 : 0 ≤ x) (h1 : x < 4294967296) : (List.reverse (KTBy.low x 4)).toArray = pack x := by
  have e := KTBy.low_ints (x := x) (n := 4) h0 (by simpa using h1)
  have hl := KTBy.low_length x 4
  match hq : KTBy.low x 4, hl with
  | [a, b, c, d], _ =>
    rw [hq] at e
    simp only [List.map_cons, List.map_nil] at e
    have e' : [(a.toNat : Int), (b.toNat : Int), (c.toNat : Int), (d.toNat : Int)] = [x % 256, x / 256 % 256, x / 65536 % 256, x / 16777216 % 256] := by
      rw [e]; simp [List.range, List.range.loop]
    simp only [List.cons.injEq, and_true] at e'
    obtain ⟨e1, e2, e3, e4⟩ := e'
    have bk : ∀ (u : UInt8) (y : Int), (u.toNat : Int) = y % 256 → u = byteAt y := by
      intro u y hy
      unfold byteAt
      rw [← hy, Int.toNat_natCast]
      simp
    unfold pack
    rw [← bk a x e1, ← bk b _ e2, ← bk c _ e3, ← bk d _ e4]
    rfl
theorem tb_args (a b : Value) : argsOk "int.to_bytes" ⟨[a, b], []⟩ := by unfold argsOk; kernel_rfl
section
variable {prog : Program} {w : World} {A : Around} {E : Value → Shared → Prop} {s : Shared} {x : Int} {t u : Tok}
theorem tb_ok {Q : Value → Shared → Prop} (h0 : 0 ≤ x) (h1 : x < 4294967296) (h : ∀ t' k', Q (.bytes (pack x) t') { s with toks := k' }) :
    wpAny (model prog w) A (call (.builtin "int.to_bytes") [.int x t, .int 4 u]) Q E s := by
  refine wpAny_call_entry KTBy.slot (typeIs_int s x t) KTBy.entry ?_ (tb_args _ _)
  have hb : intBits x ≤ 8 * 4 := KTBy.bits_le (B := 4294967296) (k := 4) (by decide) h0 h1
  show wpAny _ _ (Builtin.Int.intOfSelf (.int x t) >>= fun y => _) _ _ s
  refine wpAny_bind (wpAny_of_eq (a := x) rfl ?_)
  show wpAny _ _ (Builtin.Int.intBindNamed "to_bytes" ["length", "byteorder", "signed"] 0 2 [.int 4 u] [] >>= fun l => _) _ _ s
  refine wpAny_bind (wpAny_of_eq (a := [some (.int 4 u), none, none]) (by kernel_rfl) ?_)
  show wpAny _ _ (Builtin.Int.intIndex "int.to_bytes" (.int 4 u) >>= fun n => _) _ _ s
  refine wpAny_bind (wpAny_of_eq (a := (4 : Int)) rfl ?_)
  refine KTBy.if_not (by decide) ?_
  refine wpAny_bind (wpAny_of_eq (a := PySem.Str.ofString "big") (by kernel_rfl) ?_)
  refine wpAny_bind (wpAny_of_eq (a := false) rfl ?_)
  refine wpAny_bind (wpAny_of_eq (a := false) (by kernel_rfl) ?_)
  refine wpAny_ite_false (by decide) ?_
  refine wpAny_ite_false (by decide) ?_
  refine wpAny_ite_false (decide_eq_false (by rw [sizeLine_eq]; omega)) ?_
  refine KTBy.if_not (by show (decide (x < 0) && !false) = false; rw [decide_eq_false (show ¬ x < 0 by omega)]; rfl) ?_
  refine KTBy.if_not (by show (_ && decide ((intBits x : Int) > 8 * 4)) = false; rw [decide_eq_false (show ¬ ((intBits x : Int) > 8 * 4) by omega), Bool.and_false]) ?_
  refine wpAny_bind (wpAny_mkBytes (wpAny_pure ⟨_, rfl, ?_⟩) (by show (List.reverse (KTBy.low x 4)).length ≤ sizeLine; rw [List.length_reverse, KTBy.low_length, sizeLine_eq]; omega))
  have e := pack_low h0 h1
  show Q (.bytes (List.reverse (KTBy.low x 4)).toArray _) _
  rw [e]
  exact h _ _
theorem tb_over {Q : Value → Shared → Prop} (hx : x < 0 ∨ 4294967296 ≤ x) (hh : A.handled = none) (h : ∀ h' tk e, Heap.NewExc s.heap h' e "OverflowError" → E (.ref e) { s with heap := h', toks := tk }) :
    wpAny (model prog w) A (call (.builtin "int.to_bytes") [.int x t, .int 4 u]) Q E s := by
  refine wpAny_call_entry KTBy.slot (typeIs_int s x t) KTBy.entry ?_ (tb_args _ _)
  show wpAny _ _ (Builtin.Int.intOfSelf (.int x t) >>= fun y => _) _ _ s
  refine wpAny_bind (wpAny_of_eq (a := x) rfl ?_)
  show wpAny _ _ (Builtin.Int.intBindNamed "to_bytes" ["length", "byteorder", "signed"] 0 2 [.int 4 u] [] >>= fun l => _) _ _ s
  refine wpAny_bind (wpAny_of_eq (a := [some (.int 4 u), none, none]) (by kernel_rfl) ?_)
  show wpAny _ _ (Builtin.Int.intIndex "int.to_bytes" (.int 4 u) >>= fun n => _) _ _ s
  refine wpAny_bind (wpAny_of_eq (a := (4 : Int)) rfl ?_)
  refine KTBy.if_not (by decide) ?_
  refine wpAny_bind (wpAny_of_eq (a := PySem.Str.ofString "big") (by kernel_rfl) ?_)
  refine wpAny_bind (wpAny_of_eq (a := false) rfl ?_)
  refine wpAny_bind (wpAny_of_eq (a := false) (by kernel_rfl) ?_)
  refine wpAny_ite_false (by decide) ?_
  refine wpAny_ite_false (by decide) ?_
  refine wpAny_ite_false (decide_eq_false (by rw [sizeLine_eq]; omega)) ?_
  by_cases hn : x < 0
  · have e : (decide (x < 0) && !false) = true := by rw [decide_eq_true hn]; rfl
    refine wpAny_ite_true (decide_eq_true e) ?_
    first
    | exact wpAny_bind (wpAny_rule (by exact_raiseError plainExc_OverflowError hh h))
    | exact wpAny_bind (wpAny_rule (wpAny_bind (by exact_raiseError plainExc_OverflowError hh h)))
    | exact wpAny_bind (wpAny_bind (wpAny_rule (by exact_raiseError plainExc_OverflowError hh h)))
    | exact wpAny_rule (by exact_raiseError plainExc_OverflowError hh h)
  · refine KTBy.if_not (by show (decide (x < 0) && !false) = false; rw [decide_eq_false hn]; rfl) ?_
    have hb : ¬ (intBits x ≤ 8 * 4) := by
      intro hc
      have := intBits_le_iff.mp hc
      have e2 : (2 : Nat) ^ (8 * 4) = 4294967296 := by decide
      rw [e2] at this
      omega
    have e : ((x != 0) && decide ((intBits x : Int) > 8 * 4)) = true := by
      rw [decide_eq_true (show (intBits x : Int) > 8 * 4 by omega), Bool.and_true]
      simp
      omega
    refine wpAny_ite_true (decide_eq_true e) ?_
    first
    | exact wpAny_bind (wpAny_rule (by exact_raiseError plainExc_OverflowError hh h))
    | exact wpAny_bind (wpAny_rule (wpAny_bind (by exact_raiseError plainExc_OverflowError hh h)))
    | exact wpAny_bind (wpAny_bind (wpAny_rule (by exact_raiseError plainExc_OverflowError hh h)))
    | exact wpAny_rule (by exact_raiseError plainExc_OverflowError hh h)
end
section
variable {prog : Program} {w : World} {A : Around} {E : Value → Shared → Prop} {s : Shared} {a b k : Int} {t u : Tok} {Q : Value → Shared → Prop}
theorem div_lit (hb : 0 < b) (hl : b.natAbs.log2 < 9000) (h : Q (.int (a / b) s.toks) { s with toks := s.toks + 1 }) : wpAny (model prog w) A (binaryOp .FloorDiv (.int a t) (.int b u)) Q E s :=
  floordiv_int (by omega) (by rw [Int.fdiv_eq_ediv_of_nonneg a (Int.le_of_lt hb)]; exact h) (Or.inl (PyProof.noPylong_of_log2 hl))
theorem mod_lit (hb : 0 < b) (h : Q (.int (a % b) s.toks) { s with toks := s.toks + 1 }) : wpAny (model prog w) A (binaryOp .Mod (.int a t) (.int b u)) Q E s :=
  mod_int' (by omega) (by rw [Int.fmod_eq_emod_of_nonneg a (Int.le_of_lt hb)]; exact h)
theorem two_pos (n : Nat) : (0 : Int) < 2 ^ n := Int.pow_pos (by decide)
theorem pow_two (h0 : 0 ≤ k) (h1 : k ≤ 15) (h : Q (.int (2 ^ k.toNat) s.toks) { s with toks := s.toks + 1 }) : wpAny (model prog w) A (binaryOp .Pow (.int 2 t) (.int k u)) Q E s :=
  pow_int_small h0 (by omega) (by decide) h
theorem div_two (h1 : k ≤ 15) (h : Q (.int (a / 2 ^ k.toNat) s.toks) { s with toks := s.toks + 1 }) : wpAny (model prog w) A (binaryOp .FloorDiv (.int a t) (.int (2 ^ k.toNat) u)) Q E s :=
  div_lit (two_pos _) (kbt_py (by omega)) h
end
end
-- X0
section
section
variable {M : Model} {A : Around} {E : Value → Shared → Prop} {s : Shared}
/-- the first note of a frame on a new exception, its object told -/
theorem noteNew {B : Heap} {env : Env} {outer : List Env} {L e : Addr} {oe : Obj} {vs : Array Value} {Q : Unit → Shared → Prop}
    (hfr : A.frames = some (env :: outer)) (hl : s.heap.FunFrames B (env :: outer)) (hf : env.frame = some L)
    (he : s.heap.get? e = some oe) (hkb : B.StaysIn s.heap) (hen : B.get? e = none) (hd : oe.data = .fields vs) (h1 : vs[1]? = some .none)
    (h : ∀ h' T oT ts, B.StaysIn h' → h'.FunFrames B (env :: outer) → h'.get? e = some (oe.mapFields (·.setIfInBounds 1 (.ref T))) → h'.get? T = some oT → oT.data = .fields ts → ts[3]? = some (rawInt L) → T ≠ e → B.get? T = none →
      s.heap.UpToSlots h' → Q () { s with heap := h' }) :
    wpAny M A (noteFrame (.ref e) env) Q E s := by
  have hsz : 1 < vs.size := (Array.getElem?_eq_some_iff.mp h1).1
  have hene : e ∉ (env :: outer).filterMap (·.frame) := fun hm => by
    obtain ⟨_, o, ho, hnf⟩ := hl.mem hm
    rw [he] at ho
    injection ho with ho
    subst ho
    exact hnf vs hd
  unfold noteFrame
  simp only [hf]
  refine wpAny_bind (wpAny_field he hd h1 ?_)
  rw [if_neg (by decide)]
  refine wpAny_bind (wpAny_frameOf_fun hfr hl hf fun h₁ hs₁ => ?_)
  refine wpAny_bind (wpAny_entryPlaceOf fun pl hpl => ?_)
  unfold EntryCells.newEntry newFields
  refine wpAny_bind (wpAny_newObj_type ?_ (hpl.sizeOk5 _ _ _ _ _))
  have he₁ : h₁.get? e = some oe := (hs₁.2.1 e hene).trans he
  have kb₁ : B.StaysIn h₁ := fun b o hbo => (hs₁.2.1 b fun hm => by rw [(hl.mem hm).1] at hbo; cases hbo).trans (hkb b o hbo)
  generalize hot : ({ cls := .type "traceback", dict := none, data := .fields ([Value.none, .ref L, .none, rawInt L, .none] ++ (if pl.isEmpty then List.replicate 6 Value.none else pl)).toArray } : Obj) = ot
  have he₂ := Heap.get?_push_of_some (h := h₁) ot he₁
  have hotd : ot.data = .fields ([Value.none, .ref L, .none, rawInt L, .none] ++ (if pl.isEmpty then List.replicate 6 Value.none else pl)).toArray := by rw [← hot]
  have hTe : h₁.objs.size ≠ e := Nat.ne_of_gt (Heap.lt_size he₁)
  have hd₃ := Obj.data_mapFields hd (·.setIfInBounds 1 (Value.ref h₁.objs.size))
  have hT₁ : (h₁.push ot).get? h₁.objs.size = some ot := Heap.get?_push_size h₁ (Obj.isFreed_of_fields hotd)
  have keep : ∀ b o, b ≠ e → h₁.get? b = some o → ((h₁.push ot).update e (Obj.mapFields (·.setIfInBounds 1 (Value.ref h₁.objs.size)))).get? b = some o := fun b o hbe hb => by
    rw [Heap.get?_update_other _ _ (Ne.symm hbe)]
    exact Heap.get?_push_of_some _ hb
  have noRecord : ∀ b o, s.heap.get? b = some o → (∀ vs, o.data ≠ .fields vs) → b ≠ e := fun b o hb hnf q => by
    rw [q, he] at hb
    injection hb with hb
    subst hb
    exact hnf vs hd
  refine wpAny_setField he₂ hd hsz (h _ h₁.objs.size ot _ ?_ ?_ (Heap.get?_update_self _ he₂ (Obj.isFreed_of_fields hd₃)) ?_ hotd ?_ hTe kb₁.fresh ?_)
  · exact fun b o hbo => keep b o (fun q => by rw [q, hen] at hbo; cases hbo) (kb₁ b o hbo)
  · refine hl.of_keeps fun b o hb hnf => ?_
    obtain ⟨sl, hs⟩ := hs₁.2.2 b o hb
    exact ⟨_, keep b _ (noRecord b o hb hnf) hs, rfl⟩
  · rw [Heap.get?_update_other _ _ (Ne.symm hTe)]
    exact hT₁
  · simp
  · intro b o hb hnf
    obtain ⟨sl, hs⟩ := hs₁.2.2 b o hb
    exact ⟨sl, keep b _ (noRecord b o hb hnf) hs⟩
end
theorem entry_unchain : entryFor table "proto.unchain" = some Builtin.«proto.unchain» := entryFor_of_fast (by kernel_rfl)
section
variable {prog : Program} {w : World} {A : Around} {E : Value → Shared → Prop} {s : Shared} {env : Env}
theorem raiseStmt_marked {cls : String} (F : ExcRaiseFacts cls) {e1 : Addr} {x : Sem Value} {Q : Flow → Shared → Prop} (hh : A.handled = some (.ref e1))
    (h : wpAny (model prog w) A x (fun v s₁ => ∃ e t o1 vs1, v = .ref e ∧ s₁.heap.get? e = some { cls := .type cls, data := .fields #[.ref t, .none, .none, .none, .bool false, .none] } ∧ e1 ≠ e ∧ s₁.heap.get? e1 = some o1 ∧ o1.data = .fields vs1 ∧ vs1[2]? = some .none ∧
      E (.ref e) { s₁ with heap := s₁.heap.update e (Obj.mapFields (·.setIfInBounds 2 (.ref e1))) }) E s) :
    wpAny (model prog w) A (raiseStmt env (some x) none) Q E s := by
  unfold raiseStmt
  refine wpAny_bind (wpAny_mono h (fun v s₁ h₁ => ?_) fun _ _ x => x)
  obtain ⟨e, t, o1, vs1, rfl, he, hne, ho1, hd1, h2, hE⟩ := h₁
  obtain ⟨hp, g, d, tk, os⟩ := s₁
  have hsub := F.isExc
  have hmeta := F.plainMeta
  repeat (first | refine wpAny_loadPart he ?_ | wp_step)
  unfold raiseNew
  refine wpAny_bind (wpAny_handled ?_)
  rw [hh]
  have hne' : (Value.ref e1 != Value.ref e) = true := by
    rw [bne_iff_ne]
    intro q
    exact hne (Value.ref.inj q)
  show wpAny _ _ (if (Value.ref e1 != Value.ref e) = true then _ else _) _ _ _
  rw [if_pos hne']
  refine wpAny_bind (wpAny_holding (wpAny_runValue (codeAny_builtin entry_unchain ?_)))
  show wpAny _ _ (field (.ref e1) 2 >>= fun c => _) _ _ _
  refine wpAny_bind (wpAny_field ho1 hd1 h2 ?_)
  show wpAny _ _ (if (Value.none == Value.none) = true then _ else _) _ _ _
  rw [if_pos (by decide)]
  refine wpAny_pure ?_
  show wpAny _ _ (updateField e 2 (.ref e1) >>= fun _ => _) _ _ _
  unfold updateField
  refine wpAny_bind (wpAny_bind (wpAny_load he ?_))
  show wpAny _ _ (if 2 < _ then _ else _) _ _ _
  rw [if_pos (by simp)]
  refine wpAny_update he ?_
  exact wpAny_throw hE
theorem Raise_marked {cls : String} (F : ExcRaiseFacts cls) {e1 : Addr} {x : PySem.Expr} {pos : Pos} {Q : Flow → Shared → Prop} (hh : A.handled = some (.ref e1))
    (h : wpAny (model prog w) A (eval x env) (fun v s₁ => ∃ e t o1 vs1, v = .ref e ∧ s₁.heap.get? e = some { cls := .type cls, data := .fields #[.ref t, .none, .none, .none, .bool false, .none] } ∧ e1 ≠ e ∧ s₁.heap.get? e1 = some o1 ∧ o1.data = .fields vs1 ∧ vs1[2]? = some .none ∧
      E (.ref e) { s₁ with heap := s₁.heap.update e (Obj.mapFields (·.setIfInBounds 2 (.ref e1))) }) E s) :
    wpAny (model prog w) A (exec (.Raise (some x) none pos) env) Q E s := by
  rw [arm_exec_Raise]
  first
    | exact wpAny_bind (wpAny_standAt (raiseStmt_marked F hh (wpAny_bind (wpAny_mono h (fun v s₁ h₁ => wpAny_bind (wpAny_standAt (wpAny_pure h₁))) fun _ _ x => x))))
    | (show wpAny _ A (do standAt pos; raiseStmt env (some (do let v ← eval x env; standAt pos; pure v)) none) Q E s; exact wpAny_bind (wpAny_standAt (raiseStmt_marked F hh (wpAny_bind (wpAny_mono h (fun v s₁ h₁ => wpAny_bind (wpAny_standAt (wpAny_pure h₁))) fun _ _ x => x)))))
end
structure Caught (B : Heap) (l : List Env) (h : Heap) (e T : Addr) (oe : Obj) (h3 : Heap) : Prop where
  kb : B.StaysIn h3
  ff : h3.FunFrames B l
  he : h3.get? e = some oe
  hT : ∃ oT ts, h3.get? T = some oT ∧ oT.data = .fields ts ∧ 3 < ts.size
  ne : T ≠ e
  hTB : B.get? T = none
  up : h.UpToSlots h3
theorem Caught.off {B : Heap} {l : List Env} {h : Heap} {e T : Addr} {oe : Obj} {h3 : Heap} (x : Caught B l h e T oe h3) : Caught B l h e T oe (h3.update T (Obj.mapFields (·.setIfInBounds 3 .none))) := by
  obtain ⟨oT, ts, hT, hd, hz⟩ := x.hT
  have other : ∀ b, b ≠ T → (h3.update T (Obj.mapFields (·.setIfInBounds 3 .none))).get? b = h3.get? b := fun b hb => Heap.get?_update_other _ _ (Ne.symm hb)
  have noRecord : ∀ b o, h3.get? b = some o → (∀ vs, o.data ≠ .fields vs) → b ≠ T := fun b o hb hnf q => by
    rw [q, hT] at hb
    injection hb with hb
    subst hb
    exact hnf ts hd
  refine ⟨fun b o q => ?_, x.ff.of_keeps fun b o q hnf => ⟨o, (other b (noRecord b o q hnf)).trans q, rfl⟩, (other e (Ne.symm x.ne)).trans x.he, ?_, x.ne, x.hTB, x.up.trans fun b o q hnf => ⟨o.slots, (other b (noRecord b o q hnf)).trans q⟩⟩
  · refine (other b fun z => ?_).trans (x.kb b o q)
    rw [z, x.hTB] at q
    cases q
  · have hd' := Obj.data_mapFields hd (·.setIfInBounds 3 Value.none)
    exact ⟨_, _, Heap.get?_update_self _ hT (Obj.isFreed_of_fields hd'), hd', by simpa using hz⟩
section
variable {prog : Program} {w : World} {A₀ : Around} {s' : Shared} {base g h : Heap} {outer : List Env} {L a e : Addr} {m : Str → Option Value} {name : Str} {scope : Scope} {cd : Value} {news : List (Addr × Obj)} {KF : Frag}
  {p : Program} {loose : List Str} {mean : ExcName → Option Value} {mg mb : Str → Option Value} {msg : Str} {np np2 cp cpos pos2 pos : Pos} {kk : Nat} {Q : Flow → Shared → Prop} {E1 : Value → Shared → Prop}
/-- an OverflowError of the frame's own try, caught by its clause that raises a ValueError: what leaves the frame -/
theorem over_value (K : Below A₀ base outer g) (hx : Heap.NewExc h s'.heap e "OverflowError") (F : Fr g L h m) (N : News g L h news) (XB : KF.In base) (TB : Top p loose mean mg mb base)
    (ex1 : nsIn KF mainGlobals (PySem.Str.ofString "OverflowError") = some none) (ex2 : nsIn KF mainGlobals (PySem.Str.ofString "ValueError") = some none)
    (hQ : ∀ h' e2 t tok tk, RaisedS base g outer e2 (.type "ValueError") t [.str msg tok] news h' → g.UpToSlots h' → E1 (.ref e2) { s' with heap := h', toks := tk })
    (hk : scope.kind = .function) (hx1 : (envOf name scope L a cd).kindOf (PySem.Str.ofString "OverflowError") = some .globalImplicit) (hx2 : (envOf name scope L a cd).kindOf (PySem.Str.ofString "ValueError") = some .globalImplicit) :
    wpAny (model prog w) (A₀.deeper (envOf name scope L a cd)) (noteFrame (.ref e) (envOf name scope L a cd))
      (fun _ s₂ => wpAny (model prog w) (A₀.deeper (envOf name scope L a cd)) (setFlight (.ref e) none) (fun _ s₃ =>
        wpAny (model prog w) (A₀.deeper (envOf name scope L a cd)) (handleBy (.ref e) (envOf name scope L a cd) [.ExceptHandler (some (.Name (PySem.Str.ofString "OverflowError") np)) none [.Raise (some (.Call (.Name (PySem.Str.ofString "ValueError") np2) [.Constant (.str msg) kk cp] [] cpos)) none pos2] pos]) Q
          (fun e s' => wpAny (model prog w) (A₀.deeper (envOf name scope L a cd)) (leaving (envOf name scope L a cd) e) (fun _ s'' => E1 e s'') (fun e' s'' => E1 e' s'') s') s₃)
        (fun e s' => wpAny (model prog w) (A₀.deeper (envOf name scope L a cd)) (leaving (envOf name scope L a cd) e) (fun _ s'' => E1 e s'') (fun e' s'' => E1 e' s'') s') s₂)
      (fun e s' => wpAny (model prog w) (A₀.deeper (envOf name scope L a cd)) (leaving (envOf name scope L a cd) e) (fun _ s'' => E1 e s'') (fun e' s'' => E1 e' s'') s') s' := by
  have K' := K.push (name := name) (a := a) (cd := cd) F hk
  have hin : ∀ env ∈ (envOf name scope L a cd :: outer), ∀ b, env.frame = some b → b ∈ (envOf name scope L a cd :: outer).filterMap (·.frame) := fun env he b hb => List.mem_filterMap.mpr ⟨env, he, hb⟩
  obtain ⟨B, hBdef⟩ : ∃ B, B = hideAll h ((envOf name scope L a cd :: outer).filterMap (·.frame)) := ⟨_, rfl⟩
  have ofB : ∀ b o, B.get? b = some o → h.get? b = some o := fun b o q => of_hideAll _ (hBdef ▸ q)
  have toB : ∀ b o, h.get? b = some o → b ∉ (envOf name scope L a cd :: outer).filterMap (·.frame) → B.get? b = some o := fun b o q n => by rw [hBdef]; exact hideAll_get _ q n
  have freshB : ∀ b, h.get? b = none → B.get? b = none := fun b q => by
    cases r : B.get? b with
    | none => rfl
    | some o => have := ofB b o r; rw [q] at this; cases this
  have FB : h.FunFrames B (envOf name scope L a cd :: outer) := by rw [hBdef]; exact funFrames_hide K'.frames hin
  obtain ⟨ob, tp, he, hcls, hd⟩ := hx.there
  refine noteNew (B := B) K'.stack (FB.of_keeps fun b o hb _ => ⟨o, hx.keeps b o hb, rfl⟩) rfl he (fun b o hb => hx.keeps b o (ofB b o hb)) (freshB e hx.new) hd rfl fun h3 T oT ts kb3 ff3 he3 hT3 hdT h3f hTe hTB up3 => ?_
  have hd3 := Obj.data_mapFields hd (·.setIfInBounds 1 (Value.ref T))
  have hts : 3 < ts.size := (Array.getElem?_eq_some_iff.mp h3f).1
  have C3 : Caught B (envOf name scope L a cd :: outer) h e T (ob.mapFields (·.setIfInBounds 1 (.ref T))) h3 := ⟨kb3, ff3, he3, ⟨oT, ts, hT3, hdT, hts⟩, hTe, hTB, (Heap.UpToSlots.of_keeps hx.keeps).trans up3⟩
  refine wpAny_setFlight_none (s := { s' with heap := h3 }) he3 hd3 (by simp) hT3 hdT hts ?_
  have C4 := C3.off
  obtain ⟨h4, h4def⟩ : ∃ h4, h4 = h3.update T (Obj.mapFields (·.setIfInBounds 3 .none)) := ⟨_, rfl⟩
  rw [← h4def] at C4
  show wpAny _ _ _ _ _ ({ s' with heap := h3.update T (Obj.mapFields (·.setIfInBounds 3 .none)) } : Shared)
  rw [← h4def]
  have name_at : ∀ (h9 : Heap), Caught B (envOf name scope L a cd :: outer) h e T (ob.mapFields (·.setIfInBounds 1 (.ref T))) h9 → ∃ g', Fr g' L h9 m ∧ KF.In g' ∧ TopRead p loose mg mb g' := fun h9 C9 => by
    obtain ⟨g', _, F9, K9⟩ := kts_ground K F toB C9.kb C9.up
    exact ⟨g', F9, XB.keeps K9.stays, topRead_of (TB.keeps K9.stays)⟩
  obtain ⟨g4, F4, X4, P4⟩ := name_at h4 C4
  have cls3 : (ob.mapFields (·.setIfInBounds 1 (.ref T))).cls = .type "OverflowError" := (Obj.cls_mapFields _ _).trans hcls
  refine wpAny_handleBy_builtin (X := "OverflowError") (T := "OverflowError") (b := true) PySem.F.isExc_OverflowError PySem.F.notTuple_OverflowError (by rw [isSubtype_type]; kernel_rfl)
    (name_B (s := { s' with heap := h4 }) F4 X4 P4 ex1 PyProof.Rows.Boot.«OverflowError» (by decide) ⟨rfl, ⟨_, C4.he, cls3⟩, ?_⟩ hk hx1 (by decide))
  rw [if_pos rfl]
  obtain ⟨oT4, ts4, hT4, hdT4, hts4⟩ := C4.hT
  refine wpAny_setFlight_none (s := { s' with heap := h4 }) C4.he hd3 (by simp) hT4 hdT4 hts4 ?_
  have C5 := C4.off
  obtain ⟨h5, h5def⟩ : ∃ h5, h5 = h4.update T (Obj.mapFields (·.setIfInBounds 3 .none)) := ⟨_, rfl⟩
  rw [← h5def] at C5
  show wpAny _ _ _ _ _ ({ s' with heap := h4.update T (Obj.mapFields (·.setIfInBounds 3 .none)) } : Shared)
  rw [← h5def]
  obtain ⟨g5, F5, X5, P5⟩ := name_at h5 C5
  refine wpAny_passesOwnAt PassesOwnAt.leaving ?_
  refine wpAny_execs_cons ?_
  refine Raise_marked PySem.F.excRaise_ValueError (e1 := e) rfl ?_
  refine wpAny_Call_ofName (name_B (s := { s' with heap := h5 }) F5 X5 P5 ex2 PyProof.Rows.Boot.«ValueError» (by decide) ?_ hk hx2 (by decide))
  show wpAny _ _ (callWith cpos (.type "ValueError") [] [(false, eval (.Constant (.str msg) kk cp) (envOf name scope L a cd))] []) _ _ _
  refine callWith_excType rfl (Calls.evalArgs_plain (Calls.spliced_cons (Calls.Constant_str (Calls.spliced_nil ?_))))
  refine wpAny_call_exc PySem.F.excCall_ValueError (hrest := by rw [sizeLine_eq]; simp) fun h6 e2 hm => ?_
  obtain ⟨t, he2, htn, ht⟩ := hm.there
  have e2e : e ≠ e2 := fun q => by
    have := hm.new
    rw [← q, C5.he] at this
    cases this
  refine ⟨e2, t, _, _, rfl, he2, e2e, hm.keeps _ _ C5.he, hd3, by simp, ?_⟩
  -- what leaves
  obtain ⟨h7, h7def⟩ : ∃ h7, h7 = h6.update e2 (Obj.mapFields (·.setIfInBounds 2 (.ref e))) := ⟨_, rfl⟩
  have other7 : ∀ b, b ≠ e2 → h7.get? b = h6.get? b := fun b hb => by rw [h7def]; exact Heap.get?_update_other _ _ (Ne.symm hb)
  have old7 : ∀ b o, h5.get? b = some o → h7.get? b = some o := fun b o q => (other7 b fun z => by rw [z, hm.new] at q; cases q).trans (hm.keeps b o q)
  have hd7 := Obj.data_mapFields (o := ({ cls := .type "ValueError", data := .fields #[.ref t, .none, .none, .none, .bool false, .none] } : Obj)) rfl (·.setIfInBounds 2 (Value.ref e))
  have he7 : h7.get? e2 = some (Obj.mapFields (·.setIfInBounds 2 (Value.ref e)) { cls := .type "ValueError", data := .fields #[.ref t, .none, .none, .none, .bool false, .none] }) := by
    rw [h7def]
    exact Heap.get?_update_self _ he2 (Obj.isFreed_of_fields hd7)
  have fr5 : ∀ b, h5.get? b = none → B.get? b = none := fun b q => by
    cases r : B.get? b with
    | none => rfl
    | some o => have := C5.kb b o r; rw [q] at this; cases this
  have t7 : h7.TupAt t [.str msg _] := ⟨_, _, (other7 t fun z => by rw [z, he2] at ht; exact absurd (congrArg Obj.data (Option.some.inj ht)) (by intro q; cases q)).trans ht, rfl, rfl⟩
  show wpAny _ _ _ _ _ ({ s' with heap := h6.update e2 (Obj.mapFields (·.setIfInBounds 2 (.ref e))), toks := _ } : Shared)
  rw [← h7def]
  refine wpAny_leaving_firstW (base := B) (a0 := .ref t) (vs := #[.ref t, .none, .ref e, .none, .bool false, .none]) K'.stack (C5.ff.of_keeps fun b o q _ => ⟨o, old7 b o q, rfl⟩) rfl he7 (fun b o q => old7 b o (C5.kb b o q)) (fr5 e2 hm.new) hd7 rfl rfl fun h8 hL => ?_
  obtain ⟨k1, ⟨_, _, k2⟩, k3, k4⟩ := hL
  have st : base.StaysIn B := fun b o q => toB b o (K'.stays b o q) fun hm => by
    rw [(K'.frames.mem hm).1] at q
    cases q
  have sg : ∀ b o, g.get? b = some o → b ∉ outer.filterMap (·.frame) → B.get? b = some o := fun b o q nm => toB b o (F.keep b o q) fun hm => by
    rcases kts_mem hm with z | z
    · rw [z, kts_self F] at q
      cases q
    · exact nm z
  have hl : ∀ q ∈ news, B.get? q.1 = some q.2 ∧ g.get? q.1 = none ∧ base.get? q.1 = none := fun q hq => by
    refine ⟨toB _ _ (N q hq).1 fun hm => ?_, (N q hq).2.2, fresh_of_stays K.stays (N q hq).2.2⟩
    rcases kts_mem hm with z | z
    · exact (N q hq).2.1 z
    · obtain ⟨o, ho, _⟩ := (K.frames.mem z).2
      rw [(N q hq).2.2] at ho
      cases ho
  refine hQ h8 e2 t _ _ ⟨⟨B, st, sg, hl, ⟨k1, fr5 e2 hm.new, k2, ?_⟩, fr5 t htn⟩, t7.of_slots k4⟩ ?_
  · rw [Obj.cls_mapFields] at k3
    exact k3
  · exact ((Heap.UpToSlots.of_keeps F.keep).trans C5.up).trans ((Heap.UpToSlots.of_keeps old7).trans k4)
end
section
variable {prog : Program} {w : World} {A : Around} {E : Value → Shared → Prop} {s : Shared} {h₀ : Heap} {L e t : Addr} {news : List (Addr × Obj)} {vs : List Value} {X : String} {Q : Value → Shared → Prop}
theorem type_got (N : News h₀ L s.heap news) (G : Got news e t (.type X) vs) (hn : (Value.type X == Value.type "builtin_function_or_method") = false) (hq : Q (.type X) s) : wpAny (model prog w) A (call (.type "type") [.ref e]) Q E s := by
  obtain ⟨oe, ot, ws, nt, h1, h2, hc, _⟩ := G
  obtain ⟨hh, g, d, tk, os⟩ := s
  exact call_type_obj (N _ h1).1 (by rw [hc]; exact hn) (by rw [hc]; exact hq)
end
end
-- H01
section
open_top hd01 for PySem.Challenge.rw_dm0181_01
end
-- L1
section
local macro_rules | `(tactic| walk_at "call builtin:int.to_bytes") => `(tactic| (k_here; (with_reducible show wpAny _ _ (call (Value.builtin "int.to_bytes") [Value.int _ _, Value.int _ _]) _ _ _); (refine tb_ok (by assumption) (by assumption) ?_); intro _ _))
theorem packed_ok {prog : Program} {w : World} {loose : List Str} {mean : ExcName → Option Value} {mg mb : Str → Option Value} {news : List (Addr × Obj)} {n : Int} {tn : Tok}
    {dp un : Nat} {gd : Option (List Code)} {cn : Str} {cs : Scope} {a : Addr} {ccd : Value} {cl : List (Str × Addr)} {outer : List Env} {A₀ : Around} {base h₀ : Heap} {L : Addr} {m : Str → Option Value} {s : Shared} {Q E : Value → Shared → Prop}
    (hB : Below A₀ base outer h₀) (hF : Fr h₀ L s.heap m) (hX : (hd01.heap_39 w.params).In h₀) (hN : News h₀ L s.heap news) (hT : Top hd01.view_39 loose mean mg mb h₀) (hk : cs.kind = .function)
    (h0 : 0 ≤ n) (h1 : n < 4294967296) (hd : dp + 1 < recursionLimit) (hret : CbRet h₀ L m news s Q (fun t => .bytes (pack n) t)) :
    wpAny (model prog w) (ktrTop dp un gd cn cs L a ccd cl outer) (call (.ref 21) [.int n tn]) Q E s := by
  have hz : PySem.Challenge.rw_dm0181_01 = PySem.Challenge.rw_dm0181_01 ∧ hd01.heap_39 = hd01.heap_39 := ⟨rfl, rfl⟩
  revert hz
  k_fill
  w_top off
  intro _
  refine wpAny_call ?_
  k_dflt cell_enter
  k_steps
  all_goals exact hret _ _ _ (by assumption) (by assumption)
end
-- L2
section
local macro_rules | `(tactic| walk_at "call builtin:int.to_bytes") => `(tactic| (k_here; (with_reducible show wpAny _ _ (call (Value.builtin "int.to_bytes") [Value.int _ _, Value.int _ _]) _ _ _); (refine tb_over (by assumption) (by rfl) ?_); intro _ _ _ _))
local macro_rules | `(tactic| walk_at "call ref") => `(tactic| (k_here; (refine wpAny_call ?_); k_dflt (refine' code_def ?k1 ?k2 ?k3 ?k4 ?k5 ?kA ?kF ?kK ?k6 ?k7 ?k8 ?k9 ?kB ?_ ?c2 ?c3 ?c4 ?c5; (case kA => exact rfl); (case kF => exact rfl); (case kK => first | exact rfl | assumption); (case k1 => k_asm); (case k2 => k_asm); (case k3 => k_asm); (case k4 => k_asm); (case k5 => k_asm); (case k6 => k_is); (case k7 => k_is); (case k8 => ktr_room); (case k9 => exact BindsTo.of_eq rfl); (case c5 => decide); (case kB => exact locs rfl); (case c2 => exact rfl); (case c3 => exact rfl); (case c4 => exact rfl); k_whole; intro g' L' h' FG' F' N' B' X' T'; (try dsimp only); (try k_fold))))
local macro_rules | `(tactic| walk_at "noteFrame ref") => `(tactic| (k_here; (with_reducible rename Heap.NewExc _ _ _ _ => nX); (with_unfolding_all refine' over_value ?k1 nX ?k2 ?k3 ?k4 ?k5 ?k6 ?k7 ?_ ?c1 ?c2 ?c3; (case k2 => assumption); (case k1 => assumption); (case k3 => k_asm); (case k4 => assumption); (case k5 => assumption); (case k6 => k_is); (case k7 => k_is); (case c1 => exact rfl); (case c2 => exact rfl); (case c3 => exact rfl); intro h' e2 t' tok tk' R' U'); (clear nX); (try dsimp only at R' U' ⊢)))
local macro_rules | `(tactic| walk_at "call type:type") => `(tactic| (k_here; (with_reducible show wpAny _ _ (call (Value.type "type") [Value.ref _]) _ _ _); (refine' type_got ?N ?G ?c ?_; (case G => assumption); (case N => assumption); (case c => decide +kernel); k_whole)))
theorem refused_ok {prog : Program} {w : World} {loose : List Str} {mean : ExcName → Option Value} {mg mb : Str → Option Value} {news : List (Addr × Obj)} {n : Int} {tn : Tok}
    {cn : Str} {cs : Scope} {a : Addr} {ccd : Value} {h₀ : Heap} {L : Addr} {m : Str → Option Value} {s : Shared} {Q E : Value → Shared → Prop}
    (hF : Fr h₀ L s.heap m) (hX : (hd01.heap_39 w.params).In h₀) (hN : News h₀ L s.heap news) (hT : Top hd01.view_39 loose mean mg mb h₀) (hk : cs.kind = .function)
    (h0 : n < 0 ∨ 4294967296 ≤ n) (hret : CbRet h₀ L m news s Q (fun t => .bool true)) :
    wpAny (model prog w) (callerA.deeper (envOf cn cs L a ccd)) (call (.ref 35) [.int n tn]) Q E s := by
  have hz : PySem.Challenge.rw_dm0181_01 = PySem.Challenge.rw_dm0181_01 ∧ hd01.heap_39 = hd01.heap_39 := ⟨rfl, rfl⟩
  revert hz
  k_fill
  w_top off
  intro _
  have hB := below_caller h₀
  refine wpAny_call ?_
  k_dflt (refine' code_defS0 ?k1 ?k2 ?k3 ?k4 ?k5 ?kA ?k6 ?k7 ?k8 ?k9 ?kB ?_ ?cK ?c2 ?c3 ?c4 ?c5; (case kA => exact rfl); (case k2 => k_asm); (case k1 => k_asm); (case k3 => k_asm); (case k4 => k_asm); (case k5 => k_asm); (case k6 => k_is); (case k7 => k_is); (case k8 => k_room); (case k9 => exact BindsTo.of_eq rfl); (case kB => exact locs rfl); (case cK => assumption); (case c2 => exact rfl); (case c3 => exact rfl); (case c4 => exact rfl); (case c5 => decide); k_whole; intro g' L' h' FG' F' N' B' X' T' D'; (try dsimp only); (try k_lift B'); (try k_fold))
  k_steps
  all_goals (simp only [beq_self_eq_true]; exact hret 0 _ _ (by assumption) (by assumption))
end
-- L3
section
local macro_rules | `(tactic| walk_at "no such key 0") => `(tactic| skip)
def wstep (r c n p : Int) : Int := n * 4 + r / 2 ^ p.toNat % 2 * 2 + c / 2 ^ p.toNat % 2
def wfold (r c : Int) (ps : List Int) : Int := ps.foldl (wstep r c) 0
local macro_rules | `(tactic| walk_at "binaryOp Mult int int") => `(tactic| (with_reducible refine mul_int ?_ (IntMulOk.of_right (by decide))))
local macro_rules | `(tactic| walk_at "binaryOp Pow int int") => `(tactic| (with_reducible refine pow_two (by assumption) (by assumption) ?_))
local macro_rules | `(tactic| walk_at "binaryOp FloorDiv int int") => `(tactic| (with_reducible refine div_two (by assumption) ?_))
local macro_rules | `(tactic| walk_at "binaryOp Mod int int") => `(tactic| (with_reducible refine mod_lit (by decide) ?_))
theorem pow4_le {k : Nat} (h : k ≤ 15) : (4 : Int) ^ k ≤ 1073741824 := by
  have e : (4 : Int) ^ k = ((4 ^ k : Nat) : Int) := by rw [Int.natCast_pow]; rfl
  have : 4 ^ k ≤ 4 ^ 15 := Nat.pow_le_pow_right (by decide) h
  rw [e]
  have e2 : (4 : Nat) ^ 15 = 1073741824 := by decide
  omega
theorem woven_turn {r c k : Int} {pre : List Int} (h0 : 0 ≤ wfold r c pre) (h1 : wfold r c pre < 4 ^ pre.length) :
    wfold r c pre * 4 + r / 2 ^ k.toNat % 2 * 2 + c / 2 ^ k.toNat % 2 = wfold r c (pre ++ [k]) ∧ 0 ≤ wfold r c pre * 4 + r / 2 ^ k.toNat % 2 * 2 + c / 2 ^ k.toNat % 2 ∧
      wfold r c pre * 4 + r / 2 ^ k.toNat % 2 * 2 + c / 2 ^ k.toNat % 2 < 4 ^ (pre ++ [k]).length := by
  have e : wfold r c (pre ++ [k]) = wfold r c pre * 4 + r / 2 ^ k.toNat % 2 * 2 + c / 2 ^ k.toNat % 2 := by
    unfold wfold
    rw [List.foldl_append]
    rfl
  have e2 : (4 : Int) ^ (pre ++ [k]).length = 4 ^ pre.length * 4 := by rw [List.length_append, List.length_cons, List.length_nil, Int.pow_succ]
  rw [e, e2]
  generalize (4 : Int) ^ pre.length = z at h1 ⊢
  generalize wfold r c pre = y at h0 h1 ⊢
  generalize r / 2 ^ k.toNat = u
  generalize c / 2 ^ k.toNat = v
  refine ⟨rfl, by omega, by omega⟩
theorem woven_ok {prog : Program} {w : World} {loose : List Str} {mean : ExcName → Option Value} {mg mb : Str → Option Value} {news : List (Addr × Obj)} {r c : Int} {tr tc : Tok}
    {dp un : Nat} {gd : Option (List Code)} {cn : Str} {cs : Scope} {a : Addr} {ccd : Value} {cl : List (Str × Addr)} {outer : List Env} {A₀ : Around} {base h₀ : Heap} {L : Addr} {m : Str → Option Value} {s : Shared} {Q E : Value → Shared → Prop}
    (hB : Below A₀ base outer h₀) (hF : Fr h₀ L s.heap m) (hX : (hd01.heap_39 w.params).In h₀) (hN : News h₀ L s.heap news) (hT : Top hd01.view_39 loose mean mg mb h₀) (hk : cs.kind = .function)
    (hd : dp + 1 < recursionLimit) (hret : CbRet h₀ L m news s Q (fun t => .int (wfold r c [15,14,13,12,11,10,9,8,7,6,5,4,3,2,1,0]) t)) :
    wpAny (model prog w) (ktrTop dp un gd cn cs L a ccd cl outer) (call (.ref 28) [.int r tr, .int c tc]) Q E s := by
  have hz : PySem.Challenge.rw_dm0181_01 = PySem.Challenge.rw_dm0181_01 ∧ hd01.heap_39 = hd01.heap_39 := ⟨rfl, rfl⟩
  revert hz
  k_fill
  w_top off
  intro _
  refine wpAny_call ?_
  k_dflt cell_enter
  iterate 22 (first | (k_unfold; (try dsimp only)) | walk1 | (dsimp only; walk1))
  k_state (fun pre n => n = wfold r c pre ∧ 0 ≤ n ∧ n < 4 ^ pre.length) "number"
  · rename (_ : Int) < 4 ^ kPre.length => k1
    rename _ = wfold r c kPre => ke
    have k2 : (4 : Int) ^ kPre.length ≤ 1073741824 := pow4_le (by omega)
    have k5 := Int.lt_of_lt_of_le k1 k2
    have k6 : (wfold r c kPre) < 1073741824 := by rw [← ke]; exact k5
    rw [ke] at k1
    clear k2 k5
    have k7 : 0 ≤ kN := by omega
    have k8 : kN ≤ 15 := by omega
    subst ke
    k_with "state" => exact woven_turn (by assumption) (by assumption)
    iterate 36 (first | (k_unfold; (try dsimp only)) | walk1 | (dsimp only; walk1))
    unfold InvPostN
    dsimp only
    kst_close
  · k_with_none
    rename _ = wfold r c _ => ke
    subst ke
    k_steps
    all_goals exact hret _ _ _ (by assumption) (by assumption)
end
-- P0
section
/-- the differing places -/
abbrev X (a b : Int) : Int := Builtin.bitXor a b
theorem and_half (a b : Nat) : a &&& b = 2 * (a / 2 &&& b / 2) + a % 2 * (b % 2) := by
  have h1 : (a &&& b) / 2 = a / 2 &&& b / 2 := Nat.and_div_two
  have h2 : (a &&& b) % 2 = a % 2 * (b % 2) := by
    have h3 : (a &&& b) % 2 = (a % 2) &&& (b % 2) := Nat.and_mod_two_pow (n := 1)
    rw [h3]
    rcases Nat.mod_two_eq_zero_or_one a with e | e <;> rcases Nat.mod_two_eq_zero_or_one b with f | f <;> rw [e, f] <;> rfl
  omega
theorem X_nat (a b : Nat) : X (a : Int) (b : Int) = (a : Int) + b - 2 * ((a &&& b : Nat) : Int) := by
  show Builtin.bitXor _ _ = _
  rw [bitXor_and, bitAnd_pp (by omega) (by omega), Int.toNat_natCast, Int.toNat_natCast]
theorem X_half {a b : Int} (ha : 0 ≤ a) (hb : 0 ≤ b) : X a b = 2 * X (a / 2) (b / 2) + (if a % 2 = b % 2 then 0 else 1) := by
  obtain ⟨a, rfl⟩ := Int.eq_ofNat_of_zero_le ha
  obtain ⟨b, rfl⟩ := Int.eq_ofNat_of_zero_le hb
  have e1 : ((a : Int) / 2) = ((a / 2 : Nat) : Int) := rfl
  have e2 : ((b : Int) / 2) = ((b / 2 : Nat) : Int) := rfl
  rw [e1, e2, X_nat, X_nat, and_half a b]
  have h3 : a % 2 * (b % 2) = if a % 2 = 1 ∧ b % 2 = 1 then 1 else 0 := by
    rcases Nat.mod_two_eq_zero_or_one a with e | e <;> rcases Nat.mod_two_eq_zero_or_one b with f | f <;> rw [e, f] <;> rfl
  rw [h3]
  generalize (a / 2 &&& b / 2) = z
  split <;> split <;> omega
/-- the woven number, from the lowest place up -/
def Z : Nat → Int → Int → Int
  | 0, _, _ => 0
  | k + 1, r, c => Z k (r / 2) (c / 2) * 4 + r % 2 * 2 + c % 2
def cond (r1 r2 c1 c2 : Int) : Prop := X r1 r2 < X c1 c2 ∧ X r1 r2 < X (X r1 r2) (X c1 c2)
theorem X_zero : X 0 0 = 0 := by decide
theorem X_facts : ∀ (k : Nat) (a b : Int), 0 ≤ a → a < 2 ^ k → 0 ≤ b → b < 2 ^ k → 0 ≤ X a b ∧ X a b < 2 ^ k ∧ (X a b = 0 ↔ a = b)
  | 0, a, b, ha, ha', hb, hb' => by
    have e1 : a = 0 := by simp at ha'; omega
    have e2 : b = 0 := by simp at hb'; omega
    subst e1 e2
    rw [X_zero]
    decide
  | k + 1, a, b, ha, ha', hb, hb' => by
    rw [Int.pow_succ] at ha' hb'
    have h := X_facts k (a / 2) (b / 2) (by omega) (by omega) (by omega) (by omega)
    rw [X_half ha hb, Int.pow_succ]
    split <;> omega
theorem X_comm {a b : Int} (ha : 0 ≤ a) (hb : 0 ≤ b) : X a b = X b a := by
  obtain ⟨a, rfl⟩ := Int.eq_ofNat_of_zero_le ha
  obtain ⟨b, rfl⟩ := Int.eq_ofNat_of_zero_le hb
  rw [X_nat, X_nat, Nat.and_comm]
  omega
theorem X_left : ∀ (k : Nat) (a b : Int), 0 ≤ a → a < 2 ^ k → 0 ≤ b → b < 2 ^ k → (X a b = a ↔ b = 0)
  | 0, a, b, ha, ha', hb, hb' => by
    have e1 : a = 0 := by simp at ha'; omega
    have e2 : b = 0 := by simp at hb'; omega
    subst e1 e2
    rw [X_zero]
  | k + 1, a, b, ha, ha', hb, hb' => by
    rw [Int.pow_succ] at ha' hb'
    have h := X_left k (a / 2) (b / 2) (by omega) (by omega) (by omega) (by omega)
    rw [X_half ha hb]
    split <;> omega
theorem same_cond {U V W bu bv bw : Int} (hbu : 0 ≤ bu ∧ bu ≤ 1) (hbv : 0 ≤ bv ∧ bv ≤ 1) (hbw : 0 ≤ bw ∧ bw ≤ 1) (hU : 0 ≤ U) (hV : 0 ≤ V) (_ : 0 ≤ W) (w0 : W = 0 ↔ U = V) (wU : W = U ↔ V = 0) (hne : U ≠ 0 ∨ V ≠ 0) :
    (2 * U + bu < 2 * V + bv ∧ 2 * U + bu < 2 * W + bw) ↔ (U < V ∧ U < W) := by
  constructor
  · rintro ⟨h1, h2⟩
    by_cases e : U = V
    · have hw := w0.mpr e
      clear w0 wU
      omega
    · by_cases f : W = U
      · have hv := wU.mp f
        clear w0 wU
        omega
      · clear w0 wU
        omega
  · rintro ⟨h1, h2⟩
    clear w0 wU hne
    omega
theorem fin_lt {Z1 Z2 C1 C2 p1 p2 q1 q2 x1 x2 : Int} (hz : Z1 < Z2) (hc : C1 < C2) (hp1 : 0 ≤ p1 ∧ p1 ≤ 1) (hp2 : 0 ≤ p2 ∧ p2 ≤ 1) (hq1 : 0 ≤ q1 ∧ q1 ≤ 1) (hq2 : 0 ≤ q2 ∧ q2 ≤ 1) (hx1 : 0 ≤ x1 ∧ x1 ≤ 1) (hx2 : 0 ≤ x2 ∧ x2 ≤ 1) :
    (Z1 * 4 + p1 * 2 + q1 < Z2 * 4 + p2 * 2 + q2 ↔ 2 * C1 + x1 < 2 * C2 + x2) := iff_of_true (by omega) (by omega)
theorem fin_gt {Z1 Z2 C1 C2 p1 p2 q1 q2 x1 x2 : Int} (hz : Z2 < Z1) (hc : C2 < C1) (hp1 : 0 ≤ p1 ∧ p1 ≤ 1) (hp2 : 0 ≤ p2 ∧ p2 ≤ 1) (hq1 : 0 ≤ q1 ∧ q1 ≤ 1) (hq2 : 0 ≤ q2 ∧ q2 ≤ 1) (hx1 : 0 ≤ x1 ∧ x1 ≤ 1) (hx2 : 0 ≤ x2 ∧ x2 ≤ 1) :
    (Z1 * 4 + p1 * 2 + q1 < Z2 * 4 + p2 * 2 + q2 ↔ 2 * C1 + x1 < 2 * C2 + x2) := iff_of_false (by omega) (by omega)
theorem low_case {Zz R C p1 p2 q1 q2 : Int} (hp1 : p1 = 0 ∨ p1 = 1) (hp2 : p2 = 0 ∨ p2 = 1) (hq1 : q1 = 0 ∨ q1 = 1) (hq2 : q2 = 0 ∨ q2 = 1) {u v w : Int}
    (hu : u = if p1 = p2 then 0 else 1) (hv : v = if q1 = q2 then 0 else 1) (hw : w = if u % 2 = v % 2 then 0 else 1) :
    (Zz * 4 + p1 * 2 + q1 < Zz * 4 + p2 * 2 + q2 ↔ ((u < v ∧ u < w) ∧ 2 * C + q1 < 2 * C + q2) ∨ (¬ (u < v ∧ u < w) ∧ 2 * R + p1 < 2 * R + p2)) := by
  have e1 : (2 * C + q1 < 2 * C + q2) ↔ q1 < q2 := by omega
  have e2 : (2 * R + p1 < 2 * R + p2) ↔ p1 < p2 := by omega
  have e3 : (Zz * 4 + p1 * 2 + q1 < Zz * 4 + p2 * 2 + q2) ↔ p1 * 2 + q1 < p2 * 2 + q2 := by omega
  rw [e1, e2, e3]
  subst hw hv hu
  clear e1 e2 e3
  rcases hp1 with rfl | rfl <;> rcases hp2 with rfl | rfl <;> rcases hq1 with rfl | rfl <;> rcases hq2 with rfl | rfl <;> decide
theorem bit01 {p : Int} (h : p = 0 ∨ p = 1) : 0 ≤ p ∧ p ≤ 1 := by omega
theorem if01 (c : Prop) [Decidable c] : 0 ≤ (if c then (0 : Int) else 1) ∧ (if c then (0 : Int) else 1) ≤ 1 := by split <;> decide
theorem step_logic {Z1 Z2 R1 R2 C1 C2 p1 p2 q1 q2 U V W : Int} (hp1 : p1 = 0 ∨ p1 = 1) (hp2 : p2 = 0 ∨ p2 = 1) (hq1 : q1 = 0 ∨ q1 = 1) (hq2 : q2 = 0 ∨ q2 = 1)
    (hU : 0 ≤ U ∧ (U = 0 ↔ R1 = R2)) (hV : 0 ≤ V ∧ (V = 0 ↔ C1 = C2)) (hW : 0 ≤ W ∧ (W = 0 ↔ U = V) ∧ (W = U ↔ V = 0))
    (h1 : Z1 < Z2 ↔ ((U < V ∧ U < W) ∧ C1 < C2) ∨ (¬ (U < V ∧ U < W) ∧ R1 < R2)) (h2 : Z2 < Z1 ↔ ((U < V ∧ U < W) ∧ C2 < C1) ∨ (¬ (U < V ∧ U < W) ∧ R2 < R1)) {u v w : Int}
    (hu : u = 2 * U + (if p1 = p2 then 0 else 1)) (hv : v = 2 * V + (if q1 = q2 then 0 else 1)) (hw : w = 2 * W + (if u % 2 = v % 2 then 0 else 1)) :
    (Z1 * 4 + p1 * 2 + q1 < Z2 * 4 + p2 * 2 + q2 ↔ ((u < v ∧ u < w) ∧ 2 * C1 + q1 < 2 * C2 + q2) ∨ (¬ (u < v ∧ u < w) ∧ 2 * R1 + p1 < 2 * R2 + p2)) := by
  obtain ⟨hU0, hUe⟩ := hU
  obtain ⟨hV0, hVe⟩ := hV
  obtain ⟨hW0, hWe, hWl⟩ := hW
  by_cases hs : U = 0 ∧ V = 0
  · obtain ⟨u0, v0⟩ := hs
    have eR := hUe.mp u0
    have eC := hVe.mp v0
    have w0 : W = 0 := hWe.mpr (u0.trans v0.symm)
    subst eR eC u0 v0 w0
    have z1 : ¬ Z1 < Z2 := fun h => (h1.mp h).elim (fun x => Int.lt_irrefl _ x.2) fun x => Int.lt_irrefl _ x.2
    have z2 : ¬ Z2 < Z1 := fun h => (h2.mp h).elim (fun x => Int.lt_irrefl _ x.2) fun x => Int.lt_irrefl _ x.2
    have ez : Z1 = Z2 := Int.le_antisymm (Int.not_lt.mp z2) (Int.not_lt.mp z1)
    subst ez
    rw [Int.mul_zero, Int.zero_add] at hu hv hw
    exact low_case hp1 hp2 hq1 hq2 hu hv hw
  · have hne : U ≠ 0 ∨ V ≠ 0 := by
      by_cases u0 : U = 0
      · exact .inr fun v0 => hs ⟨u0, v0⟩
      · exact .inl u0
    have hc := same_cond (if01 (p1 = p2)) (if01 (q1 = q2)) (if01 (u % 2 = v % 2)) hU0 hV0 hW0 hWe hWl hne
    rw [← hu, ← hv, ← hw] at hc
    rw [hc]
    have a1 := bit01 hp1
    have a2 := bit01 hp2
    have a3 := bit01 hq1
    have a4 := bit01 hq2
    by_cases hT : U < V ∧ U < W
    · have hCne : C1 ≠ C2 := fun e => by
        have v0 := hVe.mpr e
        exact absurd hT.1 (by rw [v0]; exact Int.not_lt.mpr hU0)
      simp only [hT, and_self, true_and, not_true_eq_false, false_and, or_false] at h1 h2 ⊢
      rcases Int.lt_or_gt_of_ne hCne with hC | hC
      · exact fin_lt (h1.mpr hC) hC a1 a2 a3 a4 a3 a4
      · exact fin_gt (h2.mpr hC) hC a1 a2 a3 a4 a3 a4
    · have hRne : R1 ≠ R2 := fun e => by
        have u0 := hUe.mpr e
        have v0 : V ≠ 0 := fun v0 => hs ⟨u0, v0⟩
        have w0 : W ≠ U := fun w0 => v0 (hWl.mp w0)
        refine hT ⟨?_, ?_⟩ <;> clear h1 h2 hUe hVe hWe hWl hc hp1 hp2 hq1 hq2 hu hv hw hne hs hT <;> omega
      simp only [hT, not_false_eq_true, true_and, false_and, false_or] at h1 h2 ⊢
      rcases Int.lt_or_gt_of_ne hRne with hR | hR
      · exact fin_lt (h1.mpr hR) hR a1 a2 a3 a4 a1 a2
      · exact fin_gt (h2.mpr hR) hR a1 a2 a3 a4 a1 a2
theorem order_Z : ∀ (k : Nat) (r1 c1 r2 c2 : Int), 0 ≤ r1 → r1 < 2 ^ k → 0 ≤ c1 → c1 < 2 ^ k → 0 ≤ r2 → r2 < 2 ^ k → 0 ≤ c2 → c2 < 2 ^ k →
    (Z k r1 c1 < Z k r2 c2 ↔ (cond r1 r2 c1 c2 ∧ c1 < c2) ∨ (¬ cond r1 r2 c1 c2 ∧ r1 < r2))
  | 0, r1, c1, r2, c2, a1, a2, b1, b2, d1, d2, e1, e2 => by
    have x1 : r1 = 0 := by simp at a2; omega
    have x2 : c1 = 0 := by simp at b2; omega
    have x3 : r2 = 0 := by simp at d2; omega
    have x4 : c2 = 0 := by simp at e2; omega
    subst x1 x2 x3 x4
    simp [Z]
  | k + 1, r1, c1, r2, c2, a1, a2, b1, b2, d1, d2, e1, e2 => by
    rw [Int.pow_succ] at a2 b2 d2 e2
    have g1 : 0 ≤ r1 / 2 ∧ r1 / 2 < 2 ^ k := by omega
    have g2 : 0 ≤ r2 / 2 ∧ r2 / 2 < 2 ^ k := by omega
    have g3 : 0 ≤ c1 / 2 ∧ c1 / 2 < 2 ^ k := by omega
    have g4 : 0 ≤ c2 / 2 ∧ c2 / 2 < 2 ^ k := by omega
    have m1 : r1 % 2 = 0 ∨ r1 % 2 = 1 := by omega
    have m2 : r2 % 2 = 0 ∨ r2 % 2 = 1 := by omega
    have m3 : c1 % 2 = 0 ∨ c1 % 2 = 1 := by omega
    have m4 : c2 % 2 = 0 ∨ c2 % 2 = 1 := by omega
    have y1 : 2 * (r1 / 2) + r1 % 2 = r1 := by omega
    have y2 : 2 * (r2 / 2) + r2 % 2 = r2 := by omega
    have y3 : 2 * (c1 / 2) + c1 % 2 = c1 := by omega
    have y4 : 2 * (c2 / 2) + c2 % 2 = c2 := by omega
    have hu := X_half a1 d1
    have hv := X_half b1 e1
    have fU := X_facts k (r1 / 2) (r2 / 2) g1.1 g1.2 g2.1 g2.2
    have fV := X_facts k (c1 / 2) (c2 / 2) g3.1 g3.2 g4.1 g4.2
    have hun : 0 ≤ X r1 r2 := by
      have := fU.1
      rw [hu]; clear hv; split <;> omega
    have hvn : 0 ≤ X c1 c2 := by
      have := fV.1
      rw [hv]; split <;> omega
    have hu2 : X r1 r2 / 2 = X (r1 / 2) (r2 / 2) := by rw [hu]; clear hv fU fV; split <;> omega
    have hv2 : X c1 c2 / 2 = X (c1 / 2) (c2 / 2) := by rw [hv]; clear fU fV; split <;> omega
    have hw := X_half hun hvn
    rw [hu2, hv2] at hw
    have fW := X_facts k _ _ fU.1 fU.2.1 fV.1 fV.2.1
    have fL := X_left k _ _ fU.1 fU.2.1 fV.1 fV.2.1
    have h1 := order_Z k (r1 / 2) (c1 / 2) (r2 / 2) (c2 / 2) g1.1 g1.2 g3.1 g3.2 g2.1 g2.2 g4.1 g4.2
    have h2 := order_Z k (r2 / 2) (c2 / 2) (r1 / 2) (c1 / 2) g2.1 g2.2 g4.1 g4.2 g1.1 g1.2 g3.1 g3.2
    unfold cond at h1 h2 ⊢
    rw [X_comm g2.1 g1.1, X_comm g4.1 g3.1] at h2
    have q := step_logic m1 m2 m3 m4 ⟨fU.1, fU.2.2⟩ ⟨fV.1, fV.2.2⟩ ⟨fW.1, fW.2.2, fL⟩ h1 h2 hu hv hw
    rw [y1, y2, y3, y4] at q
    exact q
def downs : Nat → List Int
  | 0 => []
  | k + 1 => (k : Int) :: downs k
theorem downs_up : ∀ k, downs (k + 1) = (downs k).map (· + 1) ++ [0]
  | 0 => rfl
  | k + 1 => by
    have ih := downs_up k
    show ((k + 1 : Nat) : Int) :: downs (k + 1) = (((k : Int) + 1) :: (downs k).map (· + 1)) ++ [0]
    rw [ih]
    rfl
theorem downs_nonneg : ∀ k, ∀ p ∈ downs k, 0 ≤ p
  | 0, _, h => nomatch h
  | k + 1, p, h => by
    rcases List.mem_cons.mp h with rfl | h
    · exact Int.natCast_nonneg k
    · exact downs_nonneg k p h
theorem half_pow (r p : Int) (hp : 0 ≤ p) : r / 2 ^ (p + 1).toNat = r / 2 / 2 ^ p.toNat := by
  have e : (p + 1).toNat = p.toNat + 1 := by omega
  rw [e, Int.pow_succ, Int.mul_comm]
  first | exact (Int.ediv_ediv (by decide)).symm | exact (Int.ediv_ediv_of_nonneg (by decide)).symm
theorem fold_half (r c : Int) : ∀ (ps : List Int) (n : Int), (∀ p ∈ ps, 0 ≤ p) → (ps.map (· + 1)).foldl (wstep r c) n = ps.foldl (wstep (r / 2) (c / 2)) n
  | [], _, _ => rfl
  | p :: ps, n, h => by
    have hp := h p (.head _)
    rw [List.map_cons, List.foldl_cons, List.foldl_cons, fold_half r c ps _ fun q hq => h q (.tail _ hq)]
    congr 1
    unfold wstep
    rw [half_pow r p hp, half_pow c p hp]
theorem wfold_Z : ∀ (k : Nat) (r c : Int), wfold r c (downs k) = Z k r c
  | 0, _, _ => rfl
  | k + 1, r, c => by
    have ih := wfold_Z k (r / 2) (c / 2)
    unfold wfold at ih ⊢
    rw [downs_up, List.foldl_append, fold_half r c _ _ (downs_nonneg k), ih]
    show wstep r c (Z k (r / 2) (c / 2)) 0 = _
    unfold wstep
    simp [Z]
abbrev places : List Int := [15,14,13,12,11,10,9,8,7,6,5,4,3,2,1,0]
theorem places_downs : places = downs 16 := rfl
theorem woven_lt {r1 c1 r2 c2 : Int} (a : 0 ≤ r1 ∧ r1 < 65536) (b : 0 ≤ c1 ∧ c1 < 65536) (d : 0 ≤ r2 ∧ r2 < 65536) (e : 0 ≤ c2 ∧ c2 < 65536) :
    (wfold r1 c1 places < wfold r2 c2 places ↔ (cond r1 r2 c1 c2 ∧ c1 < c2) ∨ (¬ cond r1 r2 c1 c2 ∧ r1 < r2)) := by
  rw [places_downs, wfold_Z, wfold_Z]
  have p : (2 : Int) ^ 16 = 65536 := by decide
  exact order_Z 16 r1 c1 r2 c2 a.1 (by rw [p]; exact a.2) b.1 (by rw [p]; exact b.2) d.1 (by rw [p]; exact d.2) e.1 (by rw [p]; exact e.2)
theorem cond_swap {r1 c1 r2 c2 : Int} (a : 0 ≤ r1) (b : 0 ≤ c1) (d : 0 ≤ r2) (e : 0 ≤ c2) : cond r2 r1 c2 c1 ↔ cond r1 r2 c1 c2 := by
  unfold cond
  rw [X_comm d a, X_comm e b]
theorem byteAt_lt (a b : Int) : (byteAt a < byteAt b) ↔ a % 256 < b % 256 := by
  unfold byteAt
  rw [UInt8.lt_iff_toNat_lt, UInt8.toNat_ofNat', UInt8.toNat_ofNat']
  omega
theorem order_step (x y : UInt8) (xs ys : List UInt8) : Builtin.Bytes.order (x :: xs) (y :: ys) = if x < y then .lt else if y < x then .gt else Builtin.Bytes.order xs ys := rfl
theorem order_pack {a b : Int} (a0 : 0 ≤ a) (a1 : a < 4294967296) (b0 : 0 ≤ b) (b1 : b < 4294967296) :
    Builtin.Bytes.order (pack a).toList (pack b).toList = if a < b then .lt else if b < a then .gt else .eq := by
  show Builtin.Bytes.order [byteAt (a / 16777216), byteAt (a / 65536), byteAt (a / 256), byteAt a] [byteAt (b / 16777216), byteAt (b / 65536), byteAt (b / 256), byteAt b] = _
  rw [order_step, order_step, order_step, order_step]
  simp only [byteAt_lt]
  show (if _ then _ else if _ then _ else if _ then _ else if _ then _ else if _ then _ else if _ then _ else if _ then _ else if _ then _ else Ordering.eq) = _
  by_cases h : a < b
  · rw [if_pos h]
    split
    · rfl
    · split
      · omega
      · split
        · rfl
        · split
          · omega
          · split
            · rfl
            · split
              · omega
              · split
                · rfl
                · omega
  · rw [if_neg h]
    split
    · omega
    · split
      · rw [if_pos (by omega)]
      · split
        · omega
        · split
          · rw [if_pos (by omega)]
          · split
            · omega
            · split
              · rw [if_pos (by omega)]
              · split
                · omega
                · split
                  · rw [if_pos (by omega)]
                  · rw [if_neg (by omega)]
theorem pack_lt {a b : Int} (ha : 0 ≤ a ∧ a < 4294967296) (hb : 0 ≤ b ∧ b < 4294967296) : (Builtin.Bytes.order (pack a).toList (pack b).toList == .lt) = decide (a < b) := by
  rw [order_pack ha.1 ha.2 hb.1 hb.2]
  by_cases h : a < b
  · rw [if_pos h, decide_eq_true h]; rfl
  · rw [if_neg h, decide_eq_false h]
    split <;> rfl
theorem pack_gt {a b : Int} (ha : 0 ≤ a ∧ a < 4294967296) (hb : 0 ≤ b ∧ b < 4294967296) : (Builtin.Bytes.order (pack a).toList (pack b).toList == .gt) = decide (b < a) := by
  rw [order_pack ha.1 ha.2 hb.1 hb.2]
  by_cases h : a < b
  · rw [if_pos h, decide_eq_false (by omega)]; rfl
  · rw [if_neg h]
    by_cases g : b < a
    · rw [if_pos g, decide_eq_true g]; rfl
    · rw [if_neg g, decide_eq_false g]; rfl
theorem wfold_from (r c : Int) : ∀ (ps : List Int) (n z : Int), 0 ≤ n → n < z → 0 ≤ ps.foldl (wstep r c) n ∧ ps.foldl (wstep r c) n < z * 4 ^ ps.length
  | [], n, z, h0, h1 => by simpa using ⟨h0, h1⟩
  | p :: ps, n, z, h0, h1 => by
    have e : z * 4 ^ (p :: ps).length = (z * 4) * 4 ^ ps.length := by rw [List.length_cons, Int.pow_succ, Int.mul_assoc, Int.mul_comm (4 ^ ps.length) 4]
    rw [List.foldl_cons, e]
    refine wfold_from r c ps _ _ ?_ ?_
    · unfold wstep; omega
    · unfold wstep; omega
theorem num_bounds (r c : Int) : 0 ≤ wfold r c places ∧ wfold r c places < 4294967296 := by
  have := wfold_from r c places 0 1 (by decide) (by decide)
  exact this
theorem far_out {n f : Int} (h : 0 ≤ n ∧ n < 4294967296) (hf : f ≠ 0) : n + f * 4294967296 < 0 ∨ 4294967296 ≤ n + f * 4294967296 := by omega
abbrev rw16 (x : Int) : Int := x / 65536 % 65536
abbrev cl16 (x : Int) : Int := x % 65536
theorem rw16_b (x : Int) : 0 ≤ rw16 x ∧ rw16 x < 65536 := by unfold rw16; omega
theorem cl16_b (x : Int) : 0 ≤ cl16 x ∧ cl16 x < 65536 := by unfold cl16; omega
abbrev numOf (x : Int) : Int := wfold (x / 65536 % 65536) (x % 65536) places
theorem by_columns {x y : Int} (h : cond (rw16 x) (rw16 y) (cl16 x) (cl16 y)) :
    (Builtin.Bytes.order (pack (numOf x)).toList (pack (numOf y)).toList == .lt) = decide (cl16 x < cl16 y) ∧ (Builtin.Bytes.order (pack (numOf x)).toList (pack (numOf y)).toList == .gt) = decide (cl16 y < cl16 x) := by
  have nx := num_bounds (rw16 x) (cl16 x)
  have ny := num_bounds (rw16 y) (cl16 y)
  have l := woven_lt (rw16_b x) (cl16_b x) (rw16_b y) (cl16_b y)
  have g := woven_lt (rw16_b y) (cl16_b y) (rw16_b x) (cl16_b x)
  have sw := (cond_swap (rw16_b x).1 (cl16_b x).1 (rw16_b y).1 (cl16_b y).1).mpr h
  simp only [h, sw, true_and, not_true_eq_false, false_and, or_false] at l g
  exact ⟨(pack_lt nx ny).trans (by simp only [l]), (pack_gt nx ny).trans (by simp only [g])⟩
theorem by_rows {x y : Int} (h : ¬ cond (rw16 x) (rw16 y) (cl16 x) (cl16 y)) :
    (Builtin.Bytes.order (pack (numOf x)).toList (pack (numOf y)).toList == .lt) = decide (rw16 x < rw16 y) ∧ (Builtin.Bytes.order (pack (numOf x)).toList (pack (numOf y)).toList == .gt) = decide (rw16 y < rw16 x) := by
  have nx := num_bounds (rw16 x) (cl16 x)
  have ny := num_bounds (rw16 y) (cl16 y)
  have l := woven_lt (rw16_b x) (cl16_b x) (rw16_b y) (cl16_b y)
  have g := woven_lt (rw16_b y) (cl16_b y) (rw16_b x) (cl16_b x)
  have sw : ¬ cond (rw16 y) (rw16 x) (cl16 y) (cl16 x) := fun q => h ((cond_swap (rw16_b x).1 (cl16_b x).1 (rw16_b y).1 (cl16_b y).1).mp q)
  simp only [h, sw, not_false_eq_true, true_and, false_and, false_or] at l g
  exact ⟨(pack_lt nx ny).trans (by simp only [l]), (pack_gt nx ny).trans (by simp only [g])⟩
end
-- R0
section
theorem slot_bytes_lt : Slot "bytes" "__lt__" "bytes.__lt__" :=
  .of (owner := "bytes") (n := "__lt__") (by rw [typeLookup_type, builtinLookup_eq_fast]; kernel_rfl) (by decide +kernel) (by decide +kernel) (by decide +kernel)
    (by first | exact .inl (by decide +kernel) | exact .inr (by decide +kernel)) (by rw [isSubtype_type]; kernel_rfl)
theorem slot_bytes_gt : Slot "bytes" "__gt__" "bytes.__gt__" :=
  .of (owner := "bytes") (n := "__gt__") (by rw [typeLookup_type, builtinLookup_eq_fast]; kernel_rfl) (by decide +kernel) (by decide +kernel) (by decide +kernel)
    (by first | exact .inl (by decide +kernel) | exact .inr (by decide +kernel)) (by rw [isSubtype_type]; kernel_rfl)
theorem entry_bytes_lt : entryFor table "bytes.__lt__" = some Builtin.«bytes.__lt__» := entryFor_of_fast (by kernel_rfl)
theorem entry_bytes_gt : entryFor table "bytes.__gt__" = some Builtin.«bytes.__gt__» := entryFor_of_fast (by kernel_rfl)
theorem args_bytes_lt (a b : Value) : argsOk "bytes.__lt__" ⟨[a, b], []⟩ := by unfold argsOk; kernel_rfl
theorem args_bytes_gt (a b : Value) : argsOk "bytes.__gt__" ⟨[a, b], []⟩ := by unfold argsOk; kernel_rfl
open PySem.Builtin in
theorem gives_bytes_lt (b c : Array UInt8) (t u : Tok) : Gives («bytes.__lt__» ⟨[.bytes b t, .bytes c u], []⟩) (.val (.bool (Bytes.order b.toList c.toList == .lt))) := by
  refine .of_wp fun M A E s Q hq => ?_
  show wpAny M A (isInstance (.bytes c u) (.type "bytes") >>= fun r => _) _ E s
  refine wpAny_bind (wpAny_isInstance (typeIs_bytes s c u) F.sub_bytes_bytes ?_)
  exact wpAny_pure ⟨_, rfl, hq⟩
open PySem.Builtin in
theorem gives_bytes_gt (b c : Array UInt8) (t u : Tok) : Gives («bytes.__gt__» ⟨[.bytes b t, .bytes c u], []⟩) (.val (.bool (Bytes.order b.toList c.toList == .gt))) := by
  refine .of_wp fun M A E s Q hq => ?_
  show wpAny M A (isInstance (.bytes c u) (.type "bytes") >>= fun r => _) _ E s
  refine wpAny_bind (wpAny_isInstance (typeIs_bytes s c u) F.sub_bytes_bytes ?_)
  exact wpAny_pure ⟨_, rfl, hq⟩
section
variable {prog : Program} {w : World} {A : Around} {E : Value → Shared → Prop} {s : Shared} {b c : Array UInt8} {t u : Tok} {Q : Value → Shared → Prop}
theorem lt_bytes (h : Q (.bool (Builtin.Bytes.order b.toList c.toList == .lt)) s) : wpAny (model prog w) A (compareOp .Lt (.bytes b t) (.bytes c u)) Q E s :=
  compareOp_gives (op := .Lt) (typeIs_bytes s b t) (typeIs_bytes s c u) slot_bytes_lt entry_bytes_lt (args_bytes_lt _ _) (gives_bytes_lt b c t u) (fun e => nomatch e) h
theorem gt_bytes (h : Q (.bool (Builtin.Bytes.order b.toList c.toList == .gt)) s) : wpAny (model prog w) A (compareOp .Gt (.bytes b t) (.bytes c u)) Q E s :=
  compareOp_gives (op := .Gt) (typeIs_bytes s b t) (typeIs_bytes s c u) slot_bytes_gt entry_bytes_gt (args_bytes_gt _ _) (gives_bytes_gt b c t u) (fun e => nomatch e) h
end
abbrev ptD (x : Int) : Dat := Dat.tuple [Dat.int (x / 65536 % 65536), Dat.int (x % 65536)]
abbrev txD (x : Int) : Dat := Dat.bytes (pack (numOf x))
section
variable {prog : Program} {w : World} {A : Around} {E : Value → Shared → Prop} {s : Shared} {h₀ : Heap} {L l : Addr} {news L9 : List (Addr × Obj)} {us : List Value} {n : Nat} {k : Int} {u : Tok} {Q : Value → Shared → Prop} {xs : List Int}
theorem len_map {f : Int → Dat} (N : News h₀ L s.heap news) (hm : (l, listOf us.toArray n) ∈ news) (hd : DatAll L9 us (xs.map f)) (hx : xs.length ≤ 46)
    (h : Q (.int (xs.length : Int) (s.toks + 1)) { s with toks := s.toks + 1 + 1 }) : wpAny (model prog w) A (call (.builtin "len") [.ref l]) Q E s :=
  kd_len N hm hd (by rw [List.length_map]; omega) (by rw [List.length_map]; exact h)
/-- the place that a list of so many items has at k, or k - 1 -/
def placeOf (k : Int) (n : Nat) : Nat := if k < 0 then n - 1 else k.toNat
theorem place_index {k : Int} {n : Nat} (hn : 0 < n) (h0 : -1 ≤ k) (h1 : k < n) : seqIndex? k n = some (placeOf k n) ∧ placeOf k n < n := by
  unfold placeOf seqIndex?
  by_cases h : k < 0
  · have e : k = -1 := by omega
    subst e
    simp
    omega
  · simp [h]
    omega
theorem item_map {f : Int → Dat} {value slice : PySem.Expr} (N : News h₀ L s.heap news) (hm : (l, listOf us.toArray n) ∈ news) (hd : DatAll L9 us (xs.map f)) (hn : 0 < xs.length) (hx : xs.length ≤ 46) (h0 : -1 ≤ k) (h1 : k < xs.length)
    (h : ∀ v, DatIn L9 v (f (xs.getD (placeOf k xs.length) 0)) → Q v s)
    (hs : subscripted slice false (.ref l) (.int k u) = operate [.ref l, .int k u] (getItem (.ref l) (.int k u)) := by with_unfolding_all rfl) :
    wpAny (model prog w) A (subscriptTail value slice (.ref l) (.int k u)) Q E s := by
  have hl : s.heap.IsList l us.toArray := ⟨_, (N _ hm).1, rfl, n, rfl⟩
  obtain ⟨hj, hlt⟩ := place_index hn h0 h1
  have hle : us.length = xs.length := by rw [hd.length, List.length_map]
  obtain ⟨v, hv, hD⟩ := hd.get (k := placeOf k xs.length) (by rw [List.length_map]; exact hlt)
  rw [List.getElem_map] at hD
  have e : xs.getD (placeOf k xs.length) 0 = xs[placeOf k xs.length] := by rw [List.getD_eq_getElem?_getD, List.getElem?_eq_getElem hlt]; rfl
  have hq : Q v s := h v (by rw [e]; exact hD)
  refine tail_any hl.typeIs slot_list_getitem.lookup ?_ hs
  by_cases hk : k < 0
  · have ep : placeOf k xs.length = (k + us.toArray.size).toNat := by
      rw [List.size_toArray, hle]
      unfold placeOf
      rw [if_pos hk]
      omega
    exact wpAny_getItem_list_neg hl hk (by rw [List.size_toArray, hle]; omega) (by omega) (by rw [← ep]; simpa using hv) hq
  · have ep : placeOf k xs.length = k.toNat := by unfold placeOf; rw [if_neg hk]
    exact wpAny_getItem_list hl (by omega) (by omega) (by rw [← ep]; simpa using hv) hq
theorem item_tx {value slice : PySem.Expr} (N : News h₀ L s.heap news) (hm : (l, listOf us.toArray n) ∈ news) (hd : DatAll L9 us (xs.map txD)) (hn : 0 < xs.length) (hx : xs.length ≤ 46) (h0 : -1 ≤ k) (h1 : k < xs.length)
    (h : ∀ t, Q (.bytes (pack (numOf (xs.getD (placeOf k xs.length) 0))) t) s)
    (hs : subscripted slice false (.ref l) (.int k u) = operate [.ref l, .int k u] (getItem (.ref l) (.int k u)) := by with_unfolding_all rfl) :
    wpAny (model prog w) A (subscriptTail value slice (.ref l) (.int k u)) Q E s :=
  item_map N hm hd hn hx h0 h1 (fun v hv => by cases hv; exact h _) hs
theorem item_pt {value slice : PySem.Expr} (N : News h₀ L s.heap news) (hm : (l, listOf us.toArray n) ∈ news) (hd : DatAll L9 us (xs.map ptD)) (hn : 0 < xs.length) (hx : xs.length ≤ 46) (h0 : -1 ≤ k) (h1 : k < xs.length)
    (h : ∀ a t1 t2 n', (a, ({ cls := .type "tuple", data := .seq [Value.int (rw16 (xs.getD (placeOf k xs.length) 0)) t1, .int (cl16 (xs.getD (placeOf k xs.length) 0)) t2].toArray n' } : Obj)) ∈ L9 → Q (.ref a) s)
    (hs : subscripted slice false (.ref l) (.int k u) = operate [.ref l, .int k u] (getItem (.ref l) (.int k u)) := by with_unfolding_all rfl) :
    wpAny (model prog w) A (subscriptTail value slice (.ref l) (.int k u)) Q E s :=
  item_map N hm hd hn hx h0 h1 (fun v hv => by
    cases hv with
    | tuple h1 h2 =>
      cases h2 with
      | cons a1 a2 =>
        cases a1
        cases a2 with
        | cons b1 b2 =>
          cases b1
          cases b2
          exact h _ _ _ _ h1) hs
end
section
variable {prog : Program} {w : World} {A : Around} {E : Value → Shared → Prop} {s : Shared} {b : Array UInt8} {t : Tok} {Q : Value → Shared → Prop}
theorem type_bytes (hq : Q (.type "bytes") s) : wpAny (model prog w) A (call (.type "type") [.bytes b t]) Q E s := by
  obtain ⟨h, g, d, tk, os⟩ := s
  refine wpAny_call (codeAny_of_tree ?_)
  show wpAny _ _ (callAny (.type "type") ⟨[.bytes b t], []⟩) _ _ _
  simp only [callAny]
  refine wpAny_pure ⟨Code.quiet_builtin _ (by decide +kernel), codeAny_builtin entry_type_call ?_⟩
  unfold Builtin.«type.__call__»
  dsimp only
  unfold shownTypeOf
  repeat wp_step
  exact hq
theorem len_pack {n : Int} (h : Q (.int 4 (s.toks + 1)) { s with toks := s.toks + 1 + 1 }) : wpAny (model prog w) A (call (.builtin "len") [.bytes (pack n) t]) Q E s :=
  len_bytes (b := pack n) (by show 4 ≤ _; decide) h
end
theorem ne_same {p q p' q' : Bool} {s : Shared} {Q : Value → Shared → Prop} (h1 : p = p') (h2 : q = q') (h : Q (.bool false) s) : Q (.bool (!PyData.eqv (.tuple [.bool p, .bool q]) (.tuple [.bool p', .bool q']))) s := by
  subst h1 h2
  have e : (!PyData.eqv (.tuple [.bool p, .bool q]) (.tuple [.bool p, .bool q])) = false := by cases p <;> cases q <;> decide
  rw [e]
  exact h
end
-- M1
section
local macro_rules | `(tactic| walk_at "exec For Name BinOp cons nil") => `(tactic| (k_here; (rename Fr _ _ _ _ => lF'); (with_unfolding_all refine' For_invVF lF' ?k1 ?k2 ?_; (case k1 => exact rfl); (case k2 => exact rfl); k_whole)))
local macro_rules | `(tactic| walk_at "binaryOp FloorDiv int int") => `(tactic| (with_reducible refine div_lit (by decide) (by decide +kernel) ?_))
local macro_rules | `(tactic| walk_at "binaryOp Mod int int") => `(tactic| (with_reducible refine mod_lit (by decide) ?_))
local macro_rules | `(tactic| walk_at "binaryOp Mult int int") => `(tactic| (with_reducible refine mul_int ?_ (IntMulOk.of_right (by decide))))
local macro_rules | `(tactic| walk_at "call ref") => `(tactic| (k_here; (with_reducible show wpAny _ _ (call (Value.ref 28) [Value.int _ _, Value.int _ _]) _ _ _); k_dflt (refine' woven_ok ?k1 ?k2 ?k3 ?k4 ?k5 ?kK ?kd ?_; (case k1 => k_asm); (case k2 => k_asm); (case k3 => k_asm); (case k4 => k_asm); (case k5 => k_asm); (case kK => exact rfl); (case kd => decide); k_whole); intro t9 h9 tk9 F9 N9; (try dsimp only)))
local macro_rules | `(tactic| walk_at "call ref") => `(tactic| (k_here; (with_reducible show wpAny _ _ (call (Value.ref 21) [Value.int _ _]) _ _ _); k_dflt (refine' packed_ok ?k1 ?k2 ?k3 ?k4 ?k5 ?kK ?k6 ?k7 ?kd ?_; (case k1 => k_asm); (case k2 => k_asm); (case k3 => k_asm); (case k4 => k_asm); (case k5 => k_asm); (case kK => exact rfl); (case k6 => exact (num_bounds _ _).1); (case k7 => exact (num_bounds _ _).2); (case kd => decide); k_whole); intro t9 h9 tk9 F9 N9; (try dsimp only)))
local macro_rules | `(tactic| walk_at "call ref") => `(tactic| (k_here; (with_reducible show wpAny _ _ (call (Value.ref 35) [Value.int _ _]) _ _ _); k_dflt (refine' refused_ok ?k2 ?k3 ?k4 ?k5 ?kK ?k6 ?_; (case k2 => k_asm); (case k3 => k_asm); (case k4 => k_asm); (case k5 => k_asm); (case kK => exact rfl); (case k6 => exact far_out (num_bounds _ _) (by assumption)); k_whole); intro t9 h9 tk9 F9 N9; (try dsimp only)))
local macro_rules | `(tactic| walk_at "call builtin:len") => `(tactic| (k_here; (with_reducible show wpAny _ _ (call (Value.builtin "len") [Value.ref _]) _ _ _); k_dflt (refine' len_map ?k1 ?k2 ?k3 ?k4 ?_; (case k1 => k_asm); (case k2 => k_memK); (case k3 => assumption); (case k4 => assumption); k_whole)))
local macro_rules | `(tactic| walk_at "subscriptTail") => `(tactic| (k_here; (with_reducible show wpAny _ _ (subscriptTail _ _ (Value.ref _) (Value.int _ _)) _ _ _); k_dflt (first
  | (refine' item_tx ?k1 ?k2 ?k3 ?k4 ?k5 ?k6 ?k7 ?_ ?k8; (case k1 => k_asm); (case k2 => k_memK); (case k3 => assumption); (case k4 => assumption); (case k5 => assumption); (case k6 => assumption); (case k7 => assumption); (case k8 => with_unfolding_all rfl); k_whole; intro t9)
  | (refine' item_pt ?k1 ?k2 ?k3 ?k4 ?k5 ?k6 ?k7 ?_ ?k8; (case k1 => k_asm); (case k2 => k_memK); (case k3 => assumption); (case k4 => assumption); (case k5 => assumption); (case k6 => assumption); (case k7 => assumption); (case k8 => with_unfolding_all rfl); k_whole; intro a9 t9 u9 n9 m9))))
local macro_rules | `(tactic| walk_at "compareOp Lt bytes bytes") => `(tactic| (with_reducible refine lt_bytes ?_))
local macro_rules | `(tactic| walk_at "compareOp Gt bytes bytes") => `(tactic| (with_reducible refine gt_bytes ?_))
local macro_rules | `(tactic| walk_at "call type:type") => `(tactic| (with_reducible refine type_bytes ?_))
local macro_rules | `(tactic| walk_at "call builtin:len") => `(tactic| (with_reducible refine len_pack ?_))
local macro_rules | `(tactic| walk_at "binaryOp BitXor int int") => `(tactic| (with_reducible refine xor_int ?_))
theorem law1 : PySem.Challenge.rw_dm0181_01.Holds := hd01 (by
  k_go0
  (all_goals try k_fold)
  iterate 51 (first | (k_unfold; (try dsimp only)) | (k_end; kc_close) | walk1 | (dsimp only; walk1) | (leave1; walk_say "STEP leave1"; (try dsimp only)))
  k_dat (fun pre points texts => points = pre.map ptD ∧ texts = pre.map txD) "points*" "texts*"
  · iterate 94 (first | (k_unfold; (try dsimp only)) | (k_end; kc_close) | walk1 | (dsimp only; walk1) | (leave1; walk_say "STEP leave1"; (try dsimp only)))
    · iterate 22 (first | (k_unfold; (try dsimp only)) | (k_end; kc_close) | walk1 | (dsimp only; walk1) | (leave1; walk_say "STEP leave1"; (try dsimp only)))
      kd_close
    · iterate 4 (first | (k_unfold; (try dsimp only)) | (k_end; kc_close) | walk1 | (dsimp only; walk1) | (leave1; walk_say "STEP leave1"; (try dsimp only)))
      unfold InvPostG
      dsimp only
      kd_close
  · generalize hxs : ([786439, 262143, 262144, 262152, -1, 4294967296] : List Int) ++ List.take 40 _ = xs at *
    have hx1 : xs.length ≤ 46 := by rw [← hxs, List.length_append, List.length_take]; simp; omega
    have hx0 : 0 < xs.length := by rw [← hxs, List.length_append]; simp; omega
    iterate 15 (first | (k_unfold; (try dsimp only)) | (k_end; kc_close) | walk1 | (dsimp only; walk1) | (leave1; walk_say "STEP leave1"; (try dsimp only)))
    k_dat (fun pre points texts => points = xs.map ptD ∧ texts = xs.map txD) "points*" "texts*"
    · have hk0 : -1 ≤ kN := by omega
      have hk1 : kN < xs.length := by omega
      have hk2 : -1 ≤ kN - 1 := by omega
      have hk3 : kN - 1 < xs.length := by omega
      iterate 112 (first | (k_unfold; (try dsimp only)) | (k_end; kc_close) | walk1 | (dsimp only; walk1) | (leave1; walk_say "STEP leave1"; (try dsimp only)))
      · obtain ⟨hc1, hc2⟩ := by_columns (x := xs.getD (placeOf (kN - 1) xs.length) 0) (y := xs.getD (placeOf kN xs.length) 0) ⟨by assumption, by assumption⟩
        iterate 62 (first | (k_unfold; (try dsimp only)) | (k_end; kc_close) | walk1 | (dsimp only; walk1) | (leave1; walk_say "STEP leave1"; (try dsimp only)))
        · k_steps
        · rename (_ && _) = false => hbad
          rw [hc1, hc2] at hbad
          simp at hbad
      · obtain ⟨hc1, hc2⟩ := by_rows (x := xs.getD (placeOf (kN - 1) xs.length) 0) (y := xs.getD (placeOf kN xs.length) 0) (fun hq => absurd hq.2 (by assumption))
        iterate 62 (first | (k_unfold; (try dsimp only)) | (k_end; kc_close) | walk1 | (dsimp only; walk1) | (leave1; walk_say "STEP leave1"; (try dsimp only)))
        · k_steps
        · rename (_ && _) = false => hbad
          rw [hc1, hc2] at hbad
          simp at hbad
      · obtain ⟨hc1, hc2⟩ := by_rows (x := xs.getD (placeOf (kN - 1) xs.length) 0) (y := xs.getD (placeOf kN xs.length) 0) (fun hq => absurd hq.1 (by assumption))
        iterate 62 (first | (k_unfold; (try dsimp only)) | (k_end; kc_close) | walk1 | (dsimp only; walk1) | (leave1; walk_say "STEP leave1"; (try dsimp only)))
        · k_steps
        · rename (_ && _) = false => hbad
          rw [hc1, hc2] at hbad
          simp at hbad
    · k_steps)
end
end Mine
theorem PySem.Challenge.cw_dm0181_01_holds : PySem.Challenge.rw_dm0181_01.Holds := by
  exact Mine.law1
