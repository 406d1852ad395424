section
-- ===== PART A: goes FIRST, ahead of the names: the tables' words, and 'selects' of the private methods out of them =====
/-- a private method of a class that the tables say can be made, by its rows of tables_1 -/
def lw_okq (q : MethodName × Nat) : Prop := (q.1.cls ≠ "java/lang/invoke/MethodHandle" ∧ q.1.cls ≠ "java/lang/invoke/VarHandle") ∧ Cond.instantiable q.1.cls q.2 ∈ tables_1 ∧ Cond.privateMethod q.1 ∈ tables_1 ∧ Cond.instanceMethod q.1 ∈ tables_1
set_option maxRecDepth 100000
theorem lw_p0 : lw_okq (⟨"WireLettersModel", "push", "(I)V"⟩, 4) := ⟨⟨by decide +kernel, by decide +kernel⟩, List.mem_of_getElem? (i := 65) rfl, List.mem_of_getElem? (i := 91) rfl, List.mem_of_getElem? (i := 92) rfl⟩
def lw_privs_1 : List (MethodName × Nat) := [(⟨"WireLettersModel", "push", "(I)V"⟩, 4)]
theorem lw_r1 : ∀ q ∈ lw_privs_1, lw_okq q := List.forall_mem_cons.mpr ⟨lw_p0, fun _ h => absurd h List.not_mem_nil⟩
def lw_privs : List (MethodName × Nat) := lw_privs_1
def lw_tbl : List Cond := k2_sels lw_privs ++ tables_1
theorem lw_privs_ok : ∀ q ∈ lw_privs, lw_okq q := lw_r1
-- ===== ONE list of words for every method: the tables' words that hold all through a run =====
def lw_all : List Cond := lw_tbl.filter goodWord
/-- a word of the tables by its place: claim/WORDS.tsv -/
theorem lw_w {w : Cond} (i : Nat) (h : lw_tbl[i]? = some w) (g : goodWord w = true) : w ∈ lw_all := List.mem_filter.mpr ⟨List.mem_of_getElem? h, g⟩
theorem lw_all_tbl {w : Cond} (h : w ∈ lw_all) : w ∈ lw_tbl := (List.mem_filter.mp h).1
theorem lw_self : GoodIn lw_all lw_all := fun w h => ⟨h, good_of_word (List.mem_filter.mp h).2⟩
/-- a class's field words, by their places -/
theorem lw_in (ws : List Cond) (ps : List Nat) (hp : ws = ps.filterMap (fun i => lw_tbl[i]?)) (hg : ws.all goodWord = true) : ∀ w ∈ ws, w ∈ lw_all := by
  intro w h
  have h1 := List.all_eq_true.mp hg w h
  rw [hp] at h
  obtain ⟨i, -, hi⟩ := List.mem_filterMap.mp h
  exact lw_w i hi h1
/-- the words of a contract for the method y with code b, L locals, answer r -/
abbrev ws_ (y : MethodName) (b : ByteArray) (L : Nat) (r : Option FieldType) : List Cond := Cond.code y b L r :: lw_all
theorem lw_meth {y : MethodName} {b : ByteArray} {L : Nat} {r : Option FieldType} (h : Cond.code y b L r ∈ lw_all) : GoodIn lw_all (ws_ y b L r) := by
  intro w hw
  rcases List.mem_cons.mp hw with e | e
  · rw [e]
    exact lw_self _ h
  · exact lw_self _ e
theorem lw_app {a c : List Cond} (ha : ∀ w ∈ a, w ∈ lw_all) (hc : GoodIn lw_all c) : GoodIn lw_all (a ++ c) := by
  intro w hw
  rcases List.mem_append.mp hw with e | e
  · exact lw_self w (ha w e)
  · exact hc w e
/-- what a call through an object asks: cwV n hts (lw_V ..) -/
theorem lw_V {own : String} {idx : Nat} {C : String} {y : MethodName} {b : ByteArray} {L : Nat} {r : Option FieldType} (h1 : Cond.methodLink own idx y ∈ lw_all) (h2 : Cond.instanceMethod y ∈ lw_all) (h3 : Cond.selects C y y ∈ lw_all) (h4 : Cond.initialized C ∈ lw_all) (h5 : Cond.code y b L r ∈ lw_all) : GoodIn lw_all (wsV own idx C y (ws_ y b L r)) := by
  refine lw_app ?_ (lw_meth h5)
  intro w hw
  simp only [List.mem_cons, List.not_mem_nil, or_false] at hw
  rcases hw with e | e | e | e
  · rw [e]; exact h1
  · rw [e]; exact h2
  · rw [e]; exact h3
  · rw [e]; exact h4
/-- what a static call asks: va_cwS n hts (lw_S ..) -/
theorem lw_S {own : String} {idx : Nat} {y : MethodName} {b : ByteArray} {L : Nat} {r : Option FieldType} (h1 : Cond.methodLink own idx y ∈ lw_all) (h2 : Cond.static y ∈ lw_all) (h3 : Cond.initialized y.cls ∈ lw_all) (h4 : Cond.code y b L r ∈ lw_all) : GoodIn lw_all (va_wsS own idx y (ws_ y b L r)) := by
  refine lw_app ?_ (lw_meth h4)
  intro w hw
  simp only [List.mem_cons, List.not_mem_nil, or_false] at hw
  rcases hw with e | e | e
  · rw [e]; exact h1
  · rw [e]; exact h2
  · rw [e]; exact h3
/-- the words of a contract for a method WITH HANDLERS (hh: its table) -/
abbrev wsW_ (y : MethodName) (b : ByteArray) (L : Nat) (r : Option FieldType) (hh : List (Nat × Nat × Nat × Nat)) : List Cond := Cond.codeWith y b L r hh :: lw_all
theorem lw_methW {y : MethodName} {b : ByteArray} {L : Nat} {r : Option FieldType} {hh : List (Nat × Nat × Nat × Nat)} (h : Cond.codeWith y b L r hh ∈ lw_all) : GoodIn lw_all (wsW_ y b L r hh) := by
  intro w hw
  rcases List.mem_cons.mp hw with e | e
  · rw [e]
    exact lw_self _ h
  · exact lw_self _ e
/-- any list of words by their places (lw_in), good -/
theorem lw_good {ws : List Cond} (h : ∀ w ∈ ws, w ∈ lw_all) : GoodIn lw_all ws := fun w hw => lw_self w (h w hw)
/-- what a call of a method with handlers asks: vx_cwVW n hts (lw_VW ..), vx_cwSW n hts (lw_SW ..) -/
theorem lw_VW {own : String} {idx : Nat} {C : String} {y : MethodName} {b : ByteArray} {L : Nat} {r : Option FieldType} {hh : List (Nat × Nat × Nat × Nat)} (h1 : Cond.methodLink own idx y ∈ lw_all) (h2 : Cond.instanceMethod y ∈ lw_all) (h3 : Cond.selects C y y ∈ lw_all) (h4 : Cond.initialized C ∈ lw_all) (h5 : Cond.codeWith y b L r hh ∈ lw_all) : GoodIn lw_all (wsV own idx C y (wsW_ y b L r hh)) := by
  refine lw_app ?_ (lw_methW h5)
  intro w hw
  simp only [List.mem_cons, List.not_mem_nil, or_false] at hw
  rcases hw with e | e | e | e
  · rw [e]; exact h1
  · rw [e]; exact h2
  · rw [e]; exact h3
  · rw [e]; exact h4
theorem lw_SW {own : String} {idx : Nat} {y : MethodName} {b : ByteArray} {L : Nat} {r : Option FieldType} {hh : List (Nat × Nat × Nat × Nat)} (h1 : Cond.methodLink own idx y ∈ lw_all) (h2 : Cond.static y ∈ lw_all) (h3 : Cond.initialized y.cls ∈ lw_all) (h4 : Cond.codeWith y b L r hh ∈ lw_all) : GoodIn lw_all (va_wsS own idx y (wsW_ y b L r hh)) := by
  refine lw_app ?_ (lw_methW h4)
  intro w hw
  simp only [List.mem_cons, List.not_mem_nil, or_false] at hw
  rcases hw with e | e | e
  · rw [e]; exact h1
  · rw [e]; exact h2
  · rw [e]; exact h3
/-- a word by its place in its run of the tables -/
theorem lw_at {r : List Cond} (hr : ∀ w ∈ r, w ∈ lw_tbl) {w : Cond} (i : Nat) (h : r[i]? = some w) : w ∈ lw_tbl := hr w (List.mem_of_getElem? h)
theorem lw_g {w : Cond} (h : w ∈ lw_tbl) (g : goodWord w = true) : w ∈ lw_all := List.mem_filter.mpr ⟨h, g⟩
theorem lw_ms : ∀ w ∈ k2_sels lw_privs, w ∈ lw_tbl := fun w h => show w ∈ k2_sels lw_privs ++ tables_1 from List.mem_append_left _ h
theorem lw_m0 : ∀ w ∈ tables_1, w ∈ lw_tbl := fun w h => show w ∈ k2_sels lw_privs ++ tables_1 from List.mem_append_right (k2_sels lw_privs) h
theorem qs0 : (Cond.selects "WireLettersModel" ⟨"WireLettersModel", "push", "(I)V"⟩ ⟨"WireLettersModel", "push", "(I)V"⟩) ∈ lw_all := lw_g (lw_at lw_ms 0 rfl) rfl

/-! DECODE ROWS BY BYTES: one lemma an opcode; a method's code is cut into short pieces once, and a row reads its own piece alone. -/
set_option maxRecDepth 100000
/-- the code has just these bytes from pc on -/
def DkAt (code : ByteArray) (pc : Nat) (bs : List UInt8) : Prop := ∀ (j : Nat) (b : UInt8), bs[j]? = some b → code.data.toList[pc + j]? = some b
/-- the piece W has the bytes bs from its place j on -/
def dkIn (W : List UInt8) (j : Nat) (bs : List UInt8) : Bool := decide ((W.drop j).take bs.length = bs)
theorem dk_seg {l W T : List UInt8} {o o2 : Nat} (h : l.drop o = W ++ T) (n : Nat) (hn : W.length = n) (ho : o + n = o2) : l.drop o2 = T := by
  subst ho
  rw [← List.drop_drop, h, List.drop_left' hn]
theorem dk_at {code : ByteArray} {W T bs : List UInt8} {o pc : Nat} (h : code.data.toList.drop o = W ++ T) (j : Nat) (hp : o + j = pc) (hw : dkIn W j bs = true) : DkAt code pc bs := by
  subst hp
  intro i b e
  have h1 := of_decide_eq_true hw
  have h2 : i < bs.length := (List.getElem?_eq_some_iff.mp e).1
  have h3 : W[j + i]? = some b := by
    rw [← h1, List.getElem?_take, if_pos h2, List.getElem?_drop] at e
    exact e
  have h4 : j + i < W.length := (List.getElem?_eq_some_iff.mp h3).1
  have h5 : (code.data.toList.drop o)[j + i]? = some b := by
    rw [h, List.getElem?_append_left h4]
    exact h3
  rw [List.getElem?_drop, ← Nat.add_assoc] at h5
  exact h5
theorem dk_u1 {A : ByteArray} {p : Nat} {b : UInt8} (h : A.data.toList[p]? = some b) : (Reader.u1 : Reader DecodeError Nat) A p = .ok (b.toNat, p + 1) := by
  obtain ⟨h1, h2⟩ := List.getElem?_eq_some_iff.mp h
  have h3 : p < A.size := by simpa using h1
  have h4 : A[p]'h3 = b := h2
  have e : (Reader.u1 : Reader DecodeError Nat) A p = (if h : p < A.size then .ok (A[p].toNat, p + 1) else .error (HasTruncated.truncated p)) := by
    show (do if h : p < A.size then do set (p + 1); Pure.pure A[p].toNat else MonadExcept.throw (HasTruncated.truncated p) : Reader DecodeError Nat) A p = _
    by_cases hi : p < A.size
    · rw [dif_pos hi, dif_pos hi]; rfl
    · rw [dif_neg hi, dif_neg hi]; rfl
  rw [e, dif_pos h3, h4]
theorem dk_bind {α β : Type} {r : Reader DecodeError α} {f : α → Reader DecodeError β} {A : ByteArray} {p s : Nat} {a : α} (h : r A p = .ok (a, s)) : (r >>= f) A p = f a A s := by
  show (do let (a, s) ← r A p; f a A s : Except DecodeError (β × Nat)) = _
  rw [h]
  rfl
theorem dk_map {α β : Type} {r : Reader DecodeError α} {g : α → β} {A : ByteArray} {p s : Nat} {a : α} (h : r A p = .ok (a, s)) : (g <$> r) A p = .ok (g a, s) := by
  show (do let (a, s) ← r A p; .ok (g a, s) : Except DecodeError (β × Nat)) = _
  rw [h]
  rfl
theorem dk_u2 {A : ByteArray} {p : Nat} {a b : UInt8} (h : A.data.toList[p]? = some a) (h2 : A.data.toList[p + 1]? = some b) : (Reader.u2 : Reader DecodeError Nat) A p = .ok (a.toNat * 256 + b.toNat, p + 2) := by
  show (Reader.u1 >>= fun hi => Reader.u1 >>= fun lo => Pure.pure (hi * 256 + lo) : Reader DecodeError Nat) A p = _
  rw [dk_bind (dk_u1 h), dk_bind (dk_u1 h2)]
  rfl
theorem dk_of {code : ByteArray} {pc n : Nat} {i : Instr} (h : Decoder.instr pc code pc = .ok (i, pc + n)) : decode code pc = .ok (i, n) := by
  have e : decode code pc = (match Decoder.instr pc code pc with | .error x => .error x | .ok (j, s) => .ok (j, s - pc)) := by
    show (do let (j, s) ← Decoder.instr pc code pc; Pure.pure (j, s - pc) : Except DecodeError (Instr × Nat)) = _
    cases Decoder.instr pc code pc <;> rfl
  rw [e, h]
  show Except.ok (i, pc + n - pc) = _
  rw [Nat.add_sub_cancel_left]
theorem dk_2 {code : ByteArray} {pc : Nat} (h : DkAt code pc [2]) : decode code pc = .ok (.iconst (-1), 1) := dk_of ((dk_bind (dk_u1 (h 0 _ rfl))).trans rfl)
theorem dk_3 {code : ByteArray} {pc : Nat} (h : DkAt code pc [3]) : decode code pc = .ok (.iconst 0, 1) := dk_of ((dk_bind (dk_u1 (h 0 _ rfl))).trans rfl)
theorem dk_4 {code : ByteArray} {pc : Nat} (h : DkAt code pc [4]) : decode code pc = .ok (.iconst 1, 1) := dk_of ((dk_bind (dk_u1 (h 0 _ rfl))).trans rfl)
theorem dk_5 {code : ByteArray} {pc : Nat} (h : DkAt code pc [5]) : decode code pc = .ok (.iconst 2, 1) := dk_of ((dk_bind (dk_u1 (h 0 _ rfl))).trans rfl)
theorem dk_6 {code : ByteArray} {pc : Nat} (h : DkAt code pc [6]) : decode code pc = .ok (.iconst 3, 1) := dk_of ((dk_bind (dk_u1 (h 0 _ rfl))).trans rfl)
theorem dk_7 {code : ByteArray} {pc : Nat} (h : DkAt code pc [7]) : decode code pc = .ok (.iconst 4, 1) := dk_of ((dk_bind (dk_u1 (h 0 _ rfl))).trans rfl)
theorem dk_16 {code : ByteArray} {pc : Nat} (a : UInt8) (h : DkAt code pc [16, a]) : decode code pc = .ok (.bipush (Reader.signed 8 a.toNat), 2) := dk_of ((dk_bind (dk_u1 (h 0 _ rfl))).trans ((dk_bind (dk_map (dk_u1 (h 1 _ rfl)))).trans rfl))
theorem dk_17 {code : ByteArray} {pc : Nat} (a b : UInt8) (h : DkAt code pc [17, a, b]) : decode code pc = .ok (.sipush (Reader.signed 16 (a.toNat * 256 + b.toNat)), 3) := dk_of ((dk_bind (dk_u1 (h 0 _ rfl))).trans ((dk_bind (dk_map (dk_u2 (h 1 _ rfl) (h 2 _ rfl)))).trans rfl))
theorem dk_18 {code : ByteArray} {pc : Nat} (a : UInt8) (h : DkAt code pc [18, a]) : decode code pc = .ok (.ldc a.toNat, 2) := dk_of ((dk_bind (dk_u1 (h 0 _ rfl))).trans ((dk_bind (dk_u1 (h 1 _ rfl))).trans rfl))
theorem dk_21 {code : ByteArray} {pc : Nat} (a : UInt8) (h : DkAt code pc [21, a]) : decode code pc = .ok (.iload a.toNat, 2) := dk_of ((dk_bind (dk_u1 (h 0 _ rfl))).trans ((dk_bind (dk_u1 (h 1 _ rfl))).trans rfl))
theorem dk_27 {code : ByteArray} {pc : Nat} (h : DkAt code pc [27]) : decode code pc = .ok (.iload_n 1, 1) := dk_of ((dk_bind (dk_u1 (h 0 _ rfl))).trans rfl)
theorem dk_28 {code : ByteArray} {pc : Nat} (h : DkAt code pc [28]) : decode code pc = .ok (.iload_n 2, 1) := dk_of ((dk_bind (dk_u1 (h 0 _ rfl))).trans rfl)
theorem dk_29 {code : ByteArray} {pc : Nat} (h : DkAt code pc [29]) : decode code pc = .ok (.iload_n 3, 1) := dk_of ((dk_bind (dk_u1 (h 0 _ rfl))).trans rfl)
theorem dk_42 {code : ByteArray} {pc : Nat} (h : DkAt code pc [42]) : decode code pc = .ok (.aload_n 0, 1) := dk_of ((dk_bind (dk_u1 (h 0 _ rfl))).trans rfl)
theorem dk_43 {code : ByteArray} {pc : Nat} (h : DkAt code pc [43]) : decode code pc = .ok (.aload_n 1, 1) := dk_of ((dk_bind (dk_u1 (h 0 _ rfl))).trans rfl)
theorem dk_44 {code : ByteArray} {pc : Nat} (h : DkAt code pc [44]) : decode code pc = .ok (.aload_n 2, 1) := dk_of ((dk_bind (dk_u1 (h 0 _ rfl))).trans rfl)
theorem dk_45 {code : ByteArray} {pc : Nat} (h : DkAt code pc [45]) : decode code pc = .ok (.aload_n 3, 1) := dk_of ((dk_bind (dk_u1 (h 0 _ rfl))).trans rfl)
theorem dk_46 {code : ByteArray} {pc : Nat} (h : DkAt code pc [46]) : decode code pc = .ok (.iaload, 1) := dk_of ((dk_bind (dk_u1 (h 0 _ rfl))).trans rfl)
theorem dk_51 {code : ByteArray} {pc : Nat} (h : DkAt code pc [51]) : decode code pc = .ok (.baload, 1) := dk_of ((dk_bind (dk_u1 (h 0 _ rfl))).trans rfl)
theorem dk_52 {code : ByteArray} {pc : Nat} (h : DkAt code pc [52]) : decode code pc = .ok (.caload, 1) := dk_of ((dk_bind (dk_u1 (h 0 _ rfl))).trans rfl)
theorem dk_53 {code : ByteArray} {pc : Nat} (h : DkAt code pc [53]) : decode code pc = .ok (.saload, 1) := dk_of ((dk_bind (dk_u1 (h 0 _ rfl))).trans rfl)
theorem dk_54 {code : ByteArray} {pc : Nat} (a : UInt8) (h : DkAt code pc [54, a]) : decode code pc = .ok (.istore a.toNat, 2) := dk_of ((dk_bind (dk_u1 (h 0 _ rfl))).trans ((dk_bind (dk_u1 (h 1 _ rfl))).trans rfl))
theorem dk_61 {code : ByteArray} {pc : Nat} (h : DkAt code pc [61]) : decode code pc = .ok (.istore_n 2, 1) := dk_of ((dk_bind (dk_u1 (h 0 _ rfl))).trans rfl)
theorem dk_62 {code : ByteArray} {pc : Nat} (h : DkAt code pc [62]) : decode code pc = .ok (.istore_n 3, 1) := dk_of ((dk_bind (dk_u1 (h 0 _ rfl))).trans rfl)
theorem dk_76 {code : ByteArray} {pc : Nat} (h : DkAt code pc [76]) : decode code pc = .ok (.astore_n 1, 1) := dk_of ((dk_bind (dk_u1 (h 0 _ rfl))).trans rfl)
theorem dk_77 {code : ByteArray} {pc : Nat} (h : DkAt code pc [77]) : decode code pc = .ok (.astore_n 2, 1) := dk_of ((dk_bind (dk_u1 (h 0 _ rfl))).trans rfl)
theorem dk_79 {code : ByteArray} {pc : Nat} (h : DkAt code pc [79]) : decode code pc = .ok (.iastore, 1) := dk_of ((dk_bind (dk_u1 (h 0 _ rfl))).trans rfl)
theorem dk_84 {code : ByteArray} {pc : Nat} (h : DkAt code pc [84]) : decode code pc = .ok (.bastore, 1) := dk_of ((dk_bind (dk_u1 (h 0 _ rfl))).trans rfl)
theorem dk_85 {code : ByteArray} {pc : Nat} (h : DkAt code pc [85]) : decode code pc = .ok (.castore, 1) := dk_of ((dk_bind (dk_u1 (h 0 _ rfl))).trans rfl)
theorem dk_89 {code : ByteArray} {pc : Nat} (h : DkAt code pc [89]) : decode code pc = .ok (.dup, 1) := dk_of ((dk_bind (dk_u1 (h 0 _ rfl))).trans rfl)
theorem dk_90 {code : ByteArray} {pc : Nat} (h : DkAt code pc [90]) : decode code pc = .ok (.dup_x1, 1) := dk_of ((dk_bind (dk_u1 (h 0 _ rfl))).trans rfl)
theorem dk_96 {code : ByteArray} {pc : Nat} (h : DkAt code pc [96]) : decode code pc = .ok (.iadd, 1) := dk_of ((dk_bind (dk_u1 (h 0 _ rfl))).trans rfl)
theorem dk_100 {code : ByteArray} {pc : Nat} (h : DkAt code pc [100]) : decode code pc = .ok (.isub, 1) := dk_of ((dk_bind (dk_u1 (h 0 _ rfl))).trans rfl)
theorem dk_104 {code : ByteArray} {pc : Nat} (h : DkAt code pc [104]) : decode code pc = .ok (.imul, 1) := dk_of ((dk_bind (dk_u1 (h 0 _ rfl))).trans rfl)
theorem dk_112 {code : ByteArray} {pc : Nat} (h : DkAt code pc [112]) : decode code pc = .ok (.irem, 1) := dk_of ((dk_bind (dk_u1 (h 0 _ rfl))).trans rfl)
theorem dk_120 {code : ByteArray} {pc : Nat} (h : DkAt code pc [120]) : decode code pc = .ok (.ishl, 1) := dk_of ((dk_bind (dk_u1 (h 0 _ rfl))).trans rfl)
theorem dk_122 {code : ByteArray} {pc : Nat} (h : DkAt code pc [122]) : decode code pc = .ok (.ishr, 1) := dk_of ((dk_bind (dk_u1 (h 0 _ rfl))).trans rfl)
theorem dk_124 {code : ByteArray} {pc : Nat} (h : DkAt code pc [124]) : decode code pc = .ok (.iushr, 1) := dk_of ((dk_bind (dk_u1 (h 0 _ rfl))).trans rfl)
theorem dk_126 {code : ByteArray} {pc : Nat} (h : DkAt code pc [126]) : decode code pc = .ok (.iand, 1) := dk_of ((dk_bind (dk_u1 (h 0 _ rfl))).trans rfl)
theorem dk_128 {code : ByteArray} {pc : Nat} (h : DkAt code pc [128]) : decode code pc = .ok (.ior, 1) := dk_of ((dk_bind (dk_u1 (h 0 _ rfl))).trans rfl)
theorem dk_132 {code : ByteArray} {pc : Nat} (a b : UInt8) (h : DkAt code pc [132, a, b]) : decode code pc = .ok (.iinc a.toNat (Reader.signed 8 b.toNat), 3) := dk_of ((dk_bind (dk_u1 (h 0 _ rfl))).trans ((dk_bind (dk_u1 (h 1 _ rfl))).trans ((dk_bind (dk_map (dk_u1 (h 2 _ rfl)))).trans rfl)))
theorem dk_145 {code : ByteArray} {pc : Nat} (h : DkAt code pc [145]) : decode code pc = .ok (.i2b, 1) := dk_of ((dk_bind (dk_u1 (h 0 _ rfl))).trans rfl)
theorem dk_146 {code : ByteArray} {pc : Nat} (h : DkAt code pc [146]) : decode code pc = .ok (.i2c, 1) := dk_of ((dk_bind (dk_u1 (h 0 _ rfl))).trans rfl)
theorem dk_154 {code : ByteArray} {pc : Nat} (a b : UInt8) (h : DkAt code pc [154, a, b]) : decode code pc = .ok (.ifCond .ne (Reader.signed 16 (a.toNat * 256 + b.toNat)), 3) := dk_of ((dk_bind (dk_u1 (h 0 _ rfl))).trans ((dk_bind (dk_map (dk_u2 (h 1 _ rfl) (h 2 _ rfl)))).trans rfl))
theorem dk_155 {code : ByteArray} {pc : Nat} (a b : UInt8) (h : DkAt code pc [155, a, b]) : decode code pc = .ok (.ifCond .lt (Reader.signed 16 (a.toNat * 256 + b.toNat)), 3) := dk_of ((dk_bind (dk_u1 (h 0 _ rfl))).trans ((dk_bind (dk_map (dk_u2 (h 1 _ rfl) (h 2 _ rfl)))).trans rfl))
theorem dk_157 {code : ByteArray} {pc : Nat} (a b : UInt8) (h : DkAt code pc [157, a, b]) : decode code pc = .ok (.ifCond .gt (Reader.signed 16 (a.toNat * 256 + b.toNat)), 3) := dk_of ((dk_bind (dk_u1 (h 0 _ rfl))).trans ((dk_bind (dk_map (dk_u2 (h 1 _ rfl) (h 2 _ rfl)))).trans rfl))
theorem dk_158 {code : ByteArray} {pc : Nat} (a b : UInt8) (h : DkAt code pc [158, a, b]) : decode code pc = .ok (.ifCond .le (Reader.signed 16 (a.toNat * 256 + b.toNat)), 3) := dk_of ((dk_bind (dk_u1 (h 0 _ rfl))).trans ((dk_bind (dk_map (dk_u2 (h 1 _ rfl) (h 2 _ rfl)))).trans rfl))
theorem dk_159 {code : ByteArray} {pc : Nat} (a b : UInt8) (h : DkAt code pc [159, a, b]) : decode code pc = .ok (.if_icmp .eq (Reader.signed 16 (a.toNat * 256 + b.toNat)), 3) := dk_of ((dk_bind (dk_u1 (h 0 _ rfl))).trans ((dk_bind (dk_map (dk_u2 (h 1 _ rfl) (h 2 _ rfl)))).trans rfl))
theorem dk_160 {code : ByteArray} {pc : Nat} (a b : UInt8) (h : DkAt code pc [160, a, b]) : decode code pc = .ok (.if_icmp .ne (Reader.signed 16 (a.toNat * 256 + b.toNat)), 3) := dk_of ((dk_bind (dk_u1 (h 0 _ rfl))).trans ((dk_bind (dk_map (dk_u2 (h 1 _ rfl) (h 2 _ rfl)))).trans rfl))
theorem dk_161 {code : ByteArray} {pc : Nat} (a b : UInt8) (h : DkAt code pc [161, a, b]) : decode code pc = .ok (.if_icmp .lt (Reader.signed 16 (a.toNat * 256 + b.toNat)), 3) := dk_of ((dk_bind (dk_u1 (h 0 _ rfl))).trans ((dk_bind (dk_map (dk_u2 (h 1 _ rfl) (h 2 _ rfl)))).trans rfl))
theorem dk_162 {code : ByteArray} {pc : Nat} (a b : UInt8) (h : DkAt code pc [162, a, b]) : decode code pc = .ok (.if_icmp .ge (Reader.signed 16 (a.toNat * 256 + b.toNat)), 3) := dk_of ((dk_bind (dk_u1 (h 0 _ rfl))).trans ((dk_bind (dk_map (dk_u2 (h 1 _ rfl) (h 2 _ rfl)))).trans rfl))
theorem dk_163 {code : ByteArray} {pc : Nat} (a b : UInt8) (h : DkAt code pc [163, a, b]) : decode code pc = .ok (.if_icmp .gt (Reader.signed 16 (a.toNat * 256 + b.toNat)), 3) := dk_of ((dk_bind (dk_u1 (h 0 _ rfl))).trans ((dk_bind (dk_map (dk_u2 (h 1 _ rfl) (h 2 _ rfl)))).trans rfl))
theorem dk_164 {code : ByteArray} {pc : Nat} (a b : UInt8) (h : DkAt code pc [164, a, b]) : decode code pc = .ok (.if_icmp .le (Reader.signed 16 (a.toNat * 256 + b.toNat)), 3) := dk_of ((dk_bind (dk_u1 (h 0 _ rfl))).trans ((dk_bind (dk_map (dk_u2 (h 1 _ rfl) (h 2 _ rfl)))).trans rfl))
theorem dk_167 {code : ByteArray} {pc : Nat} (a b : UInt8) (h : DkAt code pc [167, a, b]) : decode code pc = .ok (.goto (Reader.signed 16 (a.toNat * 256 + b.toNat)), 3) := dk_of ((dk_bind (dk_u1 (h 0 _ rfl))).trans ((dk_bind (dk_map (dk_u2 (h 1 _ rfl) (h 2 _ rfl)))).trans rfl))
theorem dk_172 {code : ByteArray} {pc : Nat} (h : DkAt code pc [172]) : decode code pc = .ok (.ireturn, 1) := dk_of ((dk_bind (dk_u1 (h 0 _ rfl))).trans rfl)
theorem dk_177 {code : ByteArray} {pc : Nat} (h : DkAt code pc [177]) : decode code pc = .ok (.return_, 1) := dk_of ((dk_bind (dk_u1 (h 0 _ rfl))).trans rfl)
theorem dk_178 {code : ByteArray} {pc : Nat} (a b : UInt8) (h : DkAt code pc [178, a, b]) : decode code pc = .ok (.getstatic (a.toNat * 256 + b.toNat), 3) := dk_of ((dk_bind (dk_u1 (h 0 _ rfl))).trans ((dk_bind (dk_u2 (h 1 _ rfl) (h 2 _ rfl))).trans rfl))
theorem dk_180 {code : ByteArray} {pc : Nat} (a b : UInt8) (h : DkAt code pc [180, a, b]) : decode code pc = .ok (.getfield (a.toNat * 256 + b.toNat), 3) := dk_of ((dk_bind (dk_u1 (h 0 _ rfl))).trans ((dk_bind (dk_u2 (h 1 _ rfl) (h 2 _ rfl))).trans rfl))
theorem dk_181 {code : ByteArray} {pc : Nat} (a b : UInt8) (h : DkAt code pc [181, a, b]) : decode code pc = .ok (.putfield (a.toNat * 256 + b.toNat), 3) := dk_of ((dk_bind (dk_u1 (h 0 _ rfl))).trans ((dk_bind (dk_u2 (h 1 _ rfl) (h 2 _ rfl))).trans rfl))
theorem dk_182 {code : ByteArray} {pc : Nat} (a b : UInt8) (h : DkAt code pc [182, a, b]) : decode code pc = .ok (.invokevirtual (a.toNat * 256 + b.toNat), 3) := dk_of ((dk_bind (dk_u1 (h 0 _ rfl))).trans ((dk_bind (dk_u2 (h 1 _ rfl) (h 2 _ rfl))).trans rfl))
theorem dk_183 {code : ByteArray} {pc : Nat} (a b : UInt8) (h : DkAt code pc [183, a, b]) : decode code pc = .ok (.invokespecial (a.toNat * 256 + b.toNat), 3) := dk_of ((dk_bind (dk_u1 (h 0 _ rfl))).trans ((dk_bind (dk_u2 (h 1 _ rfl) (h 2 _ rfl))).trans rfl))
theorem dk_184 {code : ByteArray} {pc : Nat} (a b : UInt8) (h : DkAt code pc [184, a, b]) : decode code pc = .ok (.invokestatic (a.toNat * 256 + b.toNat), 3) := dk_of ((dk_bind (dk_u1 (h 0 _ rfl))).trans ((dk_bind (dk_u2 (h 1 _ rfl) (h 2 _ rfl))).trans rfl))
theorem dk_187 {code : ByteArray} {pc : Nat} (a b : UInt8) (h : DkAt code pc [187, a, b]) : decode code pc = .ok (.new (a.toNat * 256 + b.toNat), 3) := dk_of ((dk_bind (dk_u1 (h 0 _ rfl))).trans ((dk_bind (dk_u2 (h 1 _ rfl) (h 2 _ rfl))).trans rfl))
theorem dk_188_5 {code : ByteArray} {pc : Nat} (h : DkAt code pc [188, 5]) : decode code pc = .ok (.newarray .char, 2) := dk_of ((dk_bind (dk_u1 (h 0 _ rfl))).trans ((dk_bind (dk_u1 (h 1 _ rfl))).trans rfl))
theorem dk_188_8 {code : ByteArray} {pc : Nat} (h : DkAt code pc [188, 8]) : decode code pc = .ok (.newarray .byte, 2) := dk_of ((dk_bind (dk_u1 (h 0 _ rfl))).trans ((dk_bind (dk_u1 (h 1 _ rfl))).trans rfl))
theorem dk_188_10 {code : ByteArray} {pc : Nat} (h : DkAt code pc [188, 10]) : decode code pc = .ok (.newarray .int, 2) := dk_of ((dk_bind (dk_u1 (h 0 _ rfl))).trans ((dk_bind (dk_u1 (h 1 _ rfl))).trans rfl))
theorem dk_190 {code : ByteArray} {pc : Nat} (h : DkAt code pc [190]) : decode code pc = .ok (.arraylength, 1) := dk_of ((dk_bind (dk_u1 (h 0 _ rfl))).trans rfl)

/-! java/lang/Object -/
set_option maxRecDepth 100000
def RJ0 : String := "java/lang/Object"
abbrev cJ0_init : ByteArray := object_method_1_code
def yJ0_init : MethodName := ⟨RJ0, "<init>", "()V"⟩
theorem dJ0_init_0 : decode cJ0_init 0 = .ok (.return_, 1) := by decide +kernel
theorem q11 : (Jvm.Cond.instanceMethod ({ cls := "java/lang/Object", name := "<init>", desc := "()V" } : Jvm.MethodName)) ∈ lw_all := lw_g (lw_at lw_m0 10 rfl) rfl
theorem q12 : (Jvm.Cond.code ({ cls := "java/lang/Object", name := "<init>", desc := "()V" } : Jvm.MethodName) object_method_1_code (1 : Nat) (Option.none : Option Jvm.ClassFile.FieldType)) ∈ lw_all := lw_g (lw_at lw_m0 11 rfl) rfl

theorem q26 : (Jvm.Cond.arrayClass Jvm.ClassFile.FieldType.byte) ∈ lw_all := lw_g (lw_at lw_m0 25 rfl) rfl
set_option maxRecDepth 100000
theorem q27 : (Jvm.Cond.arrayClass Jvm.ClassFile.FieldType.char) ∈ lw_all := lw_g (lw_at lw_m0 26 rfl) rfl
theorem q84 : (Jvm.Cond.arrayClass Jvm.ClassFile.FieldType.int) ∈ lw_all := lw_g (lw_at lw_m0 83 rfl) rfl
theorem q120 : (Jvm.Cond.arrayClass Jvm.ClassFile.FieldType.short) ∈ lw_all := lw_g (lw_at lw_m0 119 rfl) rfl

theorem q1 : (Jvm.Cond.initialized "WireLettersLaw") ∈ lw_all := lw_g (lw_at lw_m0 0 rfl) rfl
set_option maxRecDepth 100000
theorem q5 : (Jvm.Cond.classLink "WireLettersLaw" (7 : Nat) "WireLetters") ∈ lw_all := lw_g (lw_at lw_m0 4 rfl) rfl
theorem q7 : (Jvm.Cond.methodLink "WireLettersLaw" (9 : Nat) ({ cls := "WireLetters", name := "<init>", desc := "()V" } : Jvm.MethodName)) ∈ lw_all := lw_g (lw_at lw_m0 6 rfl) rfl
theorem q28 : (Jvm.Cond.methodLink "WireLettersLaw" (13 : Nat) ({ cls := "WireLetters", name := "lay", desc := "(I)I" } : Jvm.MethodName)) ∈ lw_all := lw_g (lw_at lw_m0 27 rfl) rfl
theorem q34 : (Jvm.Cond.methodLink "WireLettersLaw" (18 : Nat) ({ cls := "WireLetters", name := "spoil", desc := "(II)V" } : Jvm.MethodName)) ∈ lw_all := lw_g (lw_at lw_m0 33 rfl) rfl
theorem q39 : (Jvm.Cond.methodLink "WireLettersLaw" (23 : Nat) ({ cls := "WireLetters", name := "cut", desc := "(I)V" } : Jvm.MethodName)) ∈ lw_all := lw_g (lw_at lw_m0 38 rfl) rfl
theorem q43 : (Jvm.Cond.methodLink "WireLettersLaw" (28 : Nat) ({ cls := "WireLetters", name := "size", desc := "()I" } : Jvm.MethodName)) ∈ lw_all := lw_g (lw_at lw_m0 42 rfl) rfl
theorem q47 : (Jvm.Cond.methodLink "WireLettersLaw" (33 : Nat) ({ cls := "WireLetters", name := "read", desc := "(II)I" } : Jvm.MethodName)) ∈ lw_all := lw_g (lw_at lw_m0 46 rfl) rfl
theorem q61 : (Jvm.Cond.methodLink "WireLettersLaw" (38 : Nat) ({ cls := "WireLetters", name := "letter", desc := "(I)I" } : Jvm.MethodName)) ∈ lw_all := lw_g (lw_at lw_m0 60 rfl) rfl
theorem q65 : (Jvm.Cond.classLink "WireLettersLaw" (10 : Nat) "WireLettersModel") ∈ lw_all := lw_g (lw_at lw_m0 64 rfl) rfl
theorem q67 : (Jvm.Cond.methodLink "WireLettersLaw" (12 : Nat) ({ cls := "WireLettersModel", name := "<init>", desc := "()V" } : Jvm.MethodName)) ∈ lw_all := lw_g (lw_at lw_m0 66 rfl) rfl
theorem q85 : (Jvm.Cond.methodLink "WireLettersLaw" (17 : Nat) ({ cls := "WireLettersModel", name := "lay", desc := "(I)I" } : Jvm.MethodName)) ∈ lw_all := lw_g (lw_at lw_m0 84 rfl) rfl
theorem q95 : (Jvm.Cond.methodLink "WireLettersLaw" (22 : Nat) ({ cls := "WireLettersModel", name := "spoil", desc := "(II)V" } : Jvm.MethodName)) ∈ lw_all := lw_g (lw_at lw_m0 94 rfl) rfl
theorem q100 : (Jvm.Cond.methodLink "WireLettersLaw" (27 : Nat) ({ cls := "WireLettersModel", name := "cut", desc := "(I)V" } : Jvm.MethodName)) ∈ lw_all := lw_g (lw_at lw_m0 99 rfl) rfl
theorem q104 : (Jvm.Cond.methodLink "WireLettersLaw" (32 : Nat) ({ cls := "WireLettersModel", name := "size", desc := "()I" } : Jvm.MethodName)) ∈ lw_all := lw_g (lw_at lw_m0 103 rfl) rfl
theorem q108 : (Jvm.Cond.methodLink "WireLettersLaw" (37 : Nat) ({ cls := "WireLettersModel", name := "read", desc := "(II)I" } : Jvm.MethodName)) ∈ lw_all := lw_g (lw_at lw_m0 107 rfl) rfl
theorem q116 : (Jvm.Cond.methodLink "WireLettersLaw" (41 : Nat) ({ cls := "WireLettersModel", name := "letter", desc := "(I)I" } : Jvm.MethodName)) ∈ lw_all := lw_g (lw_at lw_m0 115 rfl) rfl

/-! WireLetters -/
set_option maxRecDepth 100000
def RX0 : String := "WireLetters"
def TX0 : u_T := fun k => match k with
  | 0 => ("WireLetters", "text", "[B", true)
  | 1 => ("WireLetters", "letters", "[C", true)
  | 2 => ("WireLetters", "size", "I", false)
  | _ => ("WireLetters", "read", "I", false)
def tyX0 : Nat → FieldType := fun k => match k with
  | 0 => .array .byte
  | 1 => .array .char
  | 2 => .int
  | _ => .int
abbrev wsX00 : List Cond := u_ws RX0 TX0 4
theorem nmX0 : ∀ a, a < 4 → ∀ b, b < 4 → a ≠ b → (TX0 a).2.1 ≠ (TX0 b).2.1 := by decide +kernel
theorem tyX0_ok : ∀ k, k < 4 → parseFieldDescriptor (TX0 k).2.2.1 = some (tyX0 k) := by decide +kernel
abbrev cX0_init : ByteArray := prog_2_method_1_code
def yX0_init : MethodName := ⟨RX0, "<init>", "()V"⟩
def dkwX0_init_0 : List UInt8 := [42, 183, 0, 1, 42, 17, 4, 0, 188, 8, 181, 0, 7, 42, 17, 4, 0, 188, 5, 181, 0, 13, 177]
abbrev dktX0_init_0 : List UInt8 := dkwX0_init_0 ++ []
theorem dksX0_init_0 : cX0_init.data.toList.drop 0 = dktX0_init_0 := by decide +kernel
theorem dX0_init_0 : decode cX0_init 0 = .ok (.aload_n 0, 1) := dk_42 (dk_at dksX0_init_0 0 rfl rfl)
theorem dX0_init_1 : decode cX0_init 1 = .ok (.invokespecial 1, 3) := dk_183 0 1 (dk_at dksX0_init_0 1 rfl rfl)
theorem dX0_init_4 : decode cX0_init 4 = .ok (.aload_n 0, 1) := dk_42 (dk_at dksX0_init_0 4 rfl rfl)
theorem dX0_init_5 : decode cX0_init 5 = .ok (.sipush 1024, 3) := dk_17 4 0 (dk_at dksX0_init_0 5 rfl rfl)
theorem dX0_init_8 : decode cX0_init 8 = .ok (.newarray .byte, 2) := dk_188_8 (dk_at dksX0_init_0 8 rfl rfl)
theorem dX0_init_10 : decode cX0_init 10 = .ok (.putfield 7, 3) := dk_181 0 7 (dk_at dksX0_init_0 10 rfl rfl)
theorem dX0_init_13 : decode cX0_init 13 = .ok (.aload_n 0, 1) := dk_42 (dk_at dksX0_init_0 13 rfl rfl)
theorem dX0_init_14 : decode cX0_init 14 = .ok (.sipush 1024, 3) := dk_17 4 0 (dk_at dksX0_init_0 14 rfl rfl)
theorem dX0_init_17 : decode cX0_init 17 = .ok (.newarray .char, 2) := dk_188_5 (dk_at dksX0_init_0 17 rfl rfl)
theorem dX0_init_19 : decode cX0_init 19 = .ok (.putfield 13, 3) := dk_181 0 13 (dk_at dksX0_init_0 19 rfl rfl)
theorem dX0_init_22 : decode cX0_init 22 = .ok (.return_, 1) := dk_177 (dk_at dksX0_init_0 22 rfl rfl)
abbrev cX0_lay : ByteArray := prog_2_method_2_code
def yX0_lay : MethodName := ⟨RX0, "lay", "(I)I"⟩
def dkwX0_lay_12 : List UInt8 := [180, 0, 17, 90, 4, 96, 181, 0, 17, 17, 0, 128, 28, 16, 63, 126, 128, 145, 84, 42, 180, 0, 17, 172]
abbrev dktX0_lay_12 : List UInt8 := dkwX0_lay_12 ++ []
def dkwX0_lay_11 : List UInt8 := [181, 0, 17, 17, 0, 128, 28, 16, 6, 122, 16, 63, 126, 128, 145, 84, 42, 180, 0, 7, 42, 89]
abbrev dktX0_lay_11 : List UInt8 := dkwX0_lay_11 ++ dktX0_lay_12
def dkwX0_lay_10 : List UInt8 := [28, 16, 12, 122, 16, 63, 126, 128, 145, 84, 42, 180, 0, 7, 42, 89, 180, 0, 17, 90, 4, 96]
abbrev dktX0_lay_10 : List UInt8 := dkwX0_lay_10 ++ dktX0_lay_11
def dkwX0_lay_9 : List UInt8 := [16, 18, 122, 128, 145, 84, 42, 180, 0, 7, 42, 89, 180, 0, 17, 90, 4, 96, 181, 0, 17, 17, 0, 128]
abbrev dktX0_lay_9 : List UInt8 := dkwX0_lay_9 ++ dktX0_lay_10
def dkwX0_lay_8 : List UInt8 := [84, 167, 0, 109, 42, 180, 0, 7, 42, 89, 180, 0, 17, 90, 4, 96, 181, 0, 17, 17, 0, 240, 28]
abbrev dktX0_lay_8 : List UInt8 := dkwX0_lay_8 ++ dktX0_lay_9
def dkwX0_lay_7 : List UInt8 := [42, 180, 0, 7, 42, 89, 180, 0, 17, 90, 4, 96, 181, 0, 17, 17, 0, 128, 28, 16, 63, 126, 128, 145]
abbrev dktX0_lay_7 : List UInt8 := dkwX0_lay_7 ++ dktX0_lay_8
def dkwX0_lay_6 : List UInt8 := [42, 89, 180, 0, 17, 90, 4, 96, 181, 0, 17, 17, 0, 128, 28, 16, 6, 122, 16, 63, 126, 128, 145, 84]
abbrev dktX0_lay_6 : List UInt8 := dkwX0_lay_6 ++ dktX0_lay_7
def dkwX0_lay_5 : List UInt8 := [89, 180, 0, 17, 90, 4, 96, 181, 0, 17, 17, 0, 224, 28, 16, 12, 122, 128, 145, 84, 42, 180, 0, 7]
abbrev dktX0_lay_5 : List UInt8 := dkwX0_lay_5 ++ dktX0_lay_6
def dkwX0_lay_4 : List UInt8 := [17, 0, 128, 28, 16, 63, 126, 128, 145, 84, 167, 0, 196, 28, 18, 22, 162, 0, 84, 42, 180, 0, 7, 42]
abbrev dktX0_lay_4 : List UInt8 := dkwX0_lay_4 ++ dktX0_lay_5
def dkwX0_lay_3 : List UInt8 := [28, 16, 6, 122, 128, 145, 84, 42, 180, 0, 7, 42, 89, 180, 0, 17, 90, 4, 96, 181, 0, 17]
abbrev dktX0_lay_3 : List UInt8 := dkwX0_lay_3 ++ dktX0_lay_4
def dkwX0_lay_2 : List UInt8 := [17, 8, 0, 162, 0, 56, 42, 180, 0, 7, 42, 89, 180, 0, 17, 90, 4, 96, 181, 0, 17, 17, 0, 192]
abbrev dktX0_lay_2 : List UInt8 := dkwX0_lay_2 ++ dktX0_lay_3
def dkwX0_lay_1 : List UInt8 := [42, 180, 0, 7, 42, 89, 180, 0, 17, 90, 4, 96, 181, 0, 17, 28, 145, 84, 167, 1, 0, 28]
abbrev dktX0_lay_1 : List UInt8 := dkwX0_lay_1 ++ dktX0_lay_2
def dkwX0_lay_0 : List UInt8 := [42, 180, 0, 17, 17, 3, 252, 164, 0, 5, 2, 172, 27, 18, 21, 126, 61, 28, 17, 0, 128, 162, 0, 24]
abbrev dktX0_lay_0 : List UInt8 := dkwX0_lay_0 ++ dktX0_lay_1
theorem dksX0_lay_0 : cX0_lay.data.toList.drop 0 = dktX0_lay_0 := by decide +kernel
theorem dksX0_lay_1 : cX0_lay.data.toList.drop 24 = dktX0_lay_1 := dk_seg dksX0_lay_0 24 rfl rfl
theorem dksX0_lay_2 : cX0_lay.data.toList.drop 46 = dktX0_lay_2 := dk_seg dksX0_lay_1 22 rfl rfl
theorem dksX0_lay_3 : cX0_lay.data.toList.drop 70 = dktX0_lay_3 := dk_seg dksX0_lay_2 24 rfl rfl
theorem dksX0_lay_4 : cX0_lay.data.toList.drop 92 = dktX0_lay_4 := dk_seg dksX0_lay_3 22 rfl rfl
theorem dksX0_lay_5 : cX0_lay.data.toList.drop 116 = dktX0_lay_5 := dk_seg dksX0_lay_4 24 rfl rfl
theorem dksX0_lay_6 : cX0_lay.data.toList.drop 140 = dktX0_lay_6 := dk_seg dksX0_lay_5 24 rfl rfl
theorem dksX0_lay_7 : cX0_lay.data.toList.drop 164 = dktX0_lay_7 := dk_seg dksX0_lay_6 24 rfl rfl
theorem dksX0_lay_8 : cX0_lay.data.toList.drop 188 = dktX0_lay_8 := dk_seg dksX0_lay_7 24 rfl rfl
theorem dksX0_lay_9 : cX0_lay.data.toList.drop 211 = dktX0_lay_9 := dk_seg dksX0_lay_8 23 rfl rfl
theorem dksX0_lay_10 : cX0_lay.data.toList.drop 235 = dktX0_lay_10 := dk_seg dksX0_lay_9 24 rfl rfl
theorem dksX0_lay_11 : cX0_lay.data.toList.drop 257 = dktX0_lay_11 := dk_seg dksX0_lay_10 22 rfl rfl
theorem dksX0_lay_12 : cX0_lay.data.toList.drop 279 = dktX0_lay_12 := dk_seg dksX0_lay_11 22 rfl rfl
theorem dX0_lay_0 : decode cX0_lay 0 = .ok (.aload_n 0, 1) := dk_42 (dk_at dksX0_lay_0 0 rfl rfl)
theorem dX0_lay_1 : decode cX0_lay 1 = .ok (.getfield 17, 3) := dk_180 0 17 (dk_at dksX0_lay_0 1 rfl rfl)
theorem dX0_lay_4 : decode cX0_lay 4 = .ok (.sipush 1020, 3) := dk_17 3 252 (dk_at dksX0_lay_0 4 rfl rfl)
theorem dX0_lay_7 : decode cX0_lay 7 = .ok (.if_icmp .le 5, 3) := dk_164 0 5 (dk_at dksX0_lay_0 7 rfl rfl)
theorem dX0_lay_10 : decode cX0_lay 10 = .ok (.iconst (-1), 1) := dk_2 (dk_at dksX0_lay_0 10 rfl rfl)
theorem dX0_lay_11 : decode cX0_lay 11 = .ok (.ireturn, 1) := dk_172 (dk_at dksX0_lay_0 11 rfl rfl)
theorem dX0_lay_12 : decode cX0_lay 12 = .ok (.iload_n 1, 1) := dk_27 (dk_at dksX0_lay_0 12 rfl rfl)
theorem dX0_lay_13 : decode cX0_lay 13 = .ok (.ldc 21, 2) := dk_18 21 (dk_at dksX0_lay_0 13 rfl rfl)
theorem dX0_lay_15 : decode cX0_lay 15 = .ok (.iand, 1) := dk_126 (dk_at dksX0_lay_0 15 rfl rfl)
theorem dX0_lay_16 : decode cX0_lay 16 = .ok (.istore_n 2, 1) := dk_61 (dk_at dksX0_lay_0 16 rfl rfl)
theorem dX0_lay_17 : decode cX0_lay 17 = .ok (.iload_n 2, 1) := dk_28 (dk_at dksX0_lay_0 17 rfl rfl)
theorem dX0_lay_18 : decode cX0_lay 18 = .ok (.sipush 128, 3) := dk_17 0 128 (dk_at dksX0_lay_0 18 rfl rfl)
theorem dX0_lay_21 : decode cX0_lay 21 = .ok (.if_icmp .ge 24, 3) := dk_162 0 24 (dk_at dksX0_lay_0 21 rfl rfl)
theorem dX0_lay_24 : decode cX0_lay 24 = .ok (.aload_n 0, 1) := dk_42 (dk_at dksX0_lay_1 0 rfl rfl)
theorem dX0_lay_25 : decode cX0_lay 25 = .ok (.getfield 7, 3) := dk_180 0 7 (dk_at dksX0_lay_1 1 rfl rfl)
theorem dX0_lay_28 : decode cX0_lay 28 = .ok (.aload_n 0, 1) := dk_42 (dk_at dksX0_lay_1 4 rfl rfl)
theorem dX0_lay_29 : decode cX0_lay 29 = .ok (.dup, 1) := dk_89 (dk_at dksX0_lay_1 5 rfl rfl)
theorem dX0_lay_30 : decode cX0_lay 30 = .ok (.getfield 17, 3) := dk_180 0 17 (dk_at dksX0_lay_1 6 rfl rfl)
theorem dX0_lay_33 : decode cX0_lay 33 = .ok (.dup_x1, 1) := dk_90 (dk_at dksX0_lay_1 9 rfl rfl)
theorem dX0_lay_34 : decode cX0_lay 34 = .ok (.iconst 1, 1) := dk_4 (dk_at dksX0_lay_1 10 rfl rfl)
theorem dX0_lay_35 : decode cX0_lay 35 = .ok (.iadd, 1) := dk_96 (dk_at dksX0_lay_1 11 rfl rfl)
theorem dX0_lay_36 : decode cX0_lay 36 = .ok (.putfield 17, 3) := dk_181 0 17 (dk_at dksX0_lay_1 12 rfl rfl)
theorem dX0_lay_39 : decode cX0_lay 39 = .ok (.iload_n 2, 1) := dk_28 (dk_at dksX0_lay_1 15 rfl rfl)
theorem dX0_lay_40 : decode cX0_lay 40 = .ok (.i2b, 1) := dk_145 (dk_at dksX0_lay_1 16 rfl rfl)
theorem dX0_lay_41 : decode cX0_lay 41 = .ok (.bastore, 1) := dk_84 (dk_at dksX0_lay_1 17 rfl rfl)
theorem dX0_lay_42 : decode cX0_lay 42 = .ok (.goto 256, 3) := dk_167 1 0 (dk_at dksX0_lay_1 18 rfl rfl)
theorem dX0_lay_45 : decode cX0_lay 45 = .ok (.iload_n 2, 1) := dk_28 (dk_at dksX0_lay_1 21 rfl rfl)
theorem dX0_lay_46 : decode cX0_lay 46 = .ok (.sipush 2048, 3) := dk_17 8 0 (dk_at dksX0_lay_2 0 rfl rfl)
theorem dX0_lay_49 : decode cX0_lay 49 = .ok (.if_icmp .ge 56, 3) := dk_162 0 56 (dk_at dksX0_lay_2 3 rfl rfl)
theorem dX0_lay_52 : decode cX0_lay 52 = .ok (.aload_n 0, 1) := dk_42 (dk_at dksX0_lay_2 6 rfl rfl)
theorem dX0_lay_53 : decode cX0_lay 53 = .ok (.getfield 7, 3) := dk_180 0 7 (dk_at dksX0_lay_2 7 rfl rfl)
theorem dX0_lay_56 : decode cX0_lay 56 = .ok (.aload_n 0, 1) := dk_42 (dk_at dksX0_lay_2 10 rfl rfl)
theorem dX0_lay_57 : decode cX0_lay 57 = .ok (.dup, 1) := dk_89 (dk_at dksX0_lay_2 11 rfl rfl)
theorem dX0_lay_58 : decode cX0_lay 58 = .ok (.getfield 17, 3) := dk_180 0 17 (dk_at dksX0_lay_2 12 rfl rfl)
theorem dX0_lay_61 : decode cX0_lay 61 = .ok (.dup_x1, 1) := dk_90 (dk_at dksX0_lay_2 15 rfl rfl)
theorem dX0_lay_62 : decode cX0_lay 62 = .ok (.iconst 1, 1) := dk_4 (dk_at dksX0_lay_2 16 rfl rfl)
theorem dX0_lay_63 : decode cX0_lay 63 = .ok (.iadd, 1) := dk_96 (dk_at dksX0_lay_2 17 rfl rfl)
theorem dX0_lay_64 : decode cX0_lay 64 = .ok (.putfield 17, 3) := dk_181 0 17 (dk_at dksX0_lay_2 18 rfl rfl)
theorem dX0_lay_67 : decode cX0_lay 67 = .ok (.sipush 192, 3) := dk_17 0 192 (dk_at dksX0_lay_2 21 rfl rfl)
theorem dX0_lay_70 : decode cX0_lay 70 = .ok (.iload_n 2, 1) := dk_28 (dk_at dksX0_lay_3 0 rfl rfl)
theorem dX0_lay_71 : decode cX0_lay 71 = .ok (.bipush 6, 2) := dk_16 6 (dk_at dksX0_lay_3 1 rfl rfl)
theorem dX0_lay_73 : decode cX0_lay 73 = .ok (.ishr, 1) := dk_122 (dk_at dksX0_lay_3 3 rfl rfl)
theorem dX0_lay_74 : decode cX0_lay 74 = .ok (.ior, 1) := dk_128 (dk_at dksX0_lay_3 4 rfl rfl)
theorem dX0_lay_75 : decode cX0_lay 75 = .ok (.i2b, 1) := dk_145 (dk_at dksX0_lay_3 5 rfl rfl)
theorem dX0_lay_76 : decode cX0_lay 76 = .ok (.bastore, 1) := dk_84 (dk_at dksX0_lay_3 6 rfl rfl)
theorem dX0_lay_77 : decode cX0_lay 77 = .ok (.aload_n 0, 1) := dk_42 (dk_at dksX0_lay_3 7 rfl rfl)
theorem dX0_lay_78 : decode cX0_lay 78 = .ok (.getfield 7, 3) := dk_180 0 7 (dk_at dksX0_lay_3 8 rfl rfl)
theorem dX0_lay_81 : decode cX0_lay 81 = .ok (.aload_n 0, 1) := dk_42 (dk_at dksX0_lay_3 11 rfl rfl)
theorem dX0_lay_82 : decode cX0_lay 82 = .ok (.dup, 1) := dk_89 (dk_at dksX0_lay_3 12 rfl rfl)
theorem dX0_lay_83 : decode cX0_lay 83 = .ok (.getfield 17, 3) := dk_180 0 17 (dk_at dksX0_lay_3 13 rfl rfl)
theorem dX0_lay_86 : decode cX0_lay 86 = .ok (.dup_x1, 1) := dk_90 (dk_at dksX0_lay_3 16 rfl rfl)
theorem dX0_lay_87 : decode cX0_lay 87 = .ok (.iconst 1, 1) := dk_4 (dk_at dksX0_lay_3 17 rfl rfl)
theorem dX0_lay_88 : decode cX0_lay 88 = .ok (.iadd, 1) := dk_96 (dk_at dksX0_lay_3 18 rfl rfl)
theorem dX0_lay_89 : decode cX0_lay 89 = .ok (.putfield 17, 3) := dk_181 0 17 (dk_at dksX0_lay_3 19 rfl rfl)
theorem dX0_lay_92 : decode cX0_lay 92 = .ok (.sipush 128, 3) := dk_17 0 128 (dk_at dksX0_lay_4 0 rfl rfl)
theorem dX0_lay_95 : decode cX0_lay 95 = .ok (.iload_n 2, 1) := dk_28 (dk_at dksX0_lay_4 3 rfl rfl)
theorem dX0_lay_96 : decode cX0_lay 96 = .ok (.bipush 63, 2) := dk_16 63 (dk_at dksX0_lay_4 4 rfl rfl)
theorem dX0_lay_98 : decode cX0_lay 98 = .ok (.iand, 1) := dk_126 (dk_at dksX0_lay_4 6 rfl rfl)
theorem dX0_lay_99 : decode cX0_lay 99 = .ok (.ior, 1) := dk_128 (dk_at dksX0_lay_4 7 rfl rfl)
theorem dX0_lay_100 : decode cX0_lay 100 = .ok (.i2b, 1) := dk_145 (dk_at dksX0_lay_4 8 rfl rfl)
theorem dX0_lay_101 : decode cX0_lay 101 = .ok (.bastore, 1) := dk_84 (dk_at dksX0_lay_4 9 rfl rfl)
theorem dX0_lay_102 : decode cX0_lay 102 = .ok (.goto 196, 3) := dk_167 0 196 (dk_at dksX0_lay_4 10 rfl rfl)
theorem dX0_lay_105 : decode cX0_lay 105 = .ok (.iload_n 2, 1) := dk_28 (dk_at dksX0_lay_4 13 rfl rfl)
theorem dX0_lay_106 : decode cX0_lay 106 = .ok (.ldc 22, 2) := dk_18 22 (dk_at dksX0_lay_4 14 rfl rfl)
theorem dX0_lay_108 : decode cX0_lay 108 = .ok (.if_icmp .ge 84, 3) := dk_162 0 84 (dk_at dksX0_lay_4 16 rfl rfl)
theorem dX0_lay_111 : decode cX0_lay 111 = .ok (.aload_n 0, 1) := dk_42 (dk_at dksX0_lay_4 19 rfl rfl)
theorem dX0_lay_112 : decode cX0_lay 112 = .ok (.getfield 7, 3) := dk_180 0 7 (dk_at dksX0_lay_4 20 rfl rfl)
theorem dX0_lay_115 : decode cX0_lay 115 = .ok (.aload_n 0, 1) := dk_42 (dk_at dksX0_lay_4 23 rfl rfl)
theorem dX0_lay_116 : decode cX0_lay 116 = .ok (.dup, 1) := dk_89 (dk_at dksX0_lay_5 0 rfl rfl)
theorem dX0_lay_117 : decode cX0_lay 117 = .ok (.getfield 17, 3) := dk_180 0 17 (dk_at dksX0_lay_5 1 rfl rfl)
theorem dX0_lay_120 : decode cX0_lay 120 = .ok (.dup_x1, 1) := dk_90 (dk_at dksX0_lay_5 4 rfl rfl)
theorem dX0_lay_121 : decode cX0_lay 121 = .ok (.iconst 1, 1) := dk_4 (dk_at dksX0_lay_5 5 rfl rfl)
theorem dX0_lay_122 : decode cX0_lay 122 = .ok (.iadd, 1) := dk_96 (dk_at dksX0_lay_5 6 rfl rfl)
theorem dX0_lay_123 : decode cX0_lay 123 = .ok (.putfield 17, 3) := dk_181 0 17 (dk_at dksX0_lay_5 7 rfl rfl)
theorem dX0_lay_126 : decode cX0_lay 126 = .ok (.sipush 224, 3) := dk_17 0 224 (dk_at dksX0_lay_5 10 rfl rfl)
theorem dX0_lay_129 : decode cX0_lay 129 = .ok (.iload_n 2, 1) := dk_28 (dk_at dksX0_lay_5 13 rfl rfl)
theorem dX0_lay_130 : decode cX0_lay 130 = .ok (.bipush 12, 2) := dk_16 12 (dk_at dksX0_lay_5 14 rfl rfl)
theorem dX0_lay_132 : decode cX0_lay 132 = .ok (.ishr, 1) := dk_122 (dk_at dksX0_lay_5 16 rfl rfl)
theorem dX0_lay_133 : decode cX0_lay 133 = .ok (.ior, 1) := dk_128 (dk_at dksX0_lay_5 17 rfl rfl)
theorem dX0_lay_134 : decode cX0_lay 134 = .ok (.i2b, 1) := dk_145 (dk_at dksX0_lay_5 18 rfl rfl)
theorem dX0_lay_135 : decode cX0_lay 135 = .ok (.bastore, 1) := dk_84 (dk_at dksX0_lay_5 19 rfl rfl)
theorem dX0_lay_136 : decode cX0_lay 136 = .ok (.aload_n 0, 1) := dk_42 (dk_at dksX0_lay_5 20 rfl rfl)
theorem dX0_lay_137 : decode cX0_lay 137 = .ok (.getfield 7, 3) := dk_180 0 7 (dk_at dksX0_lay_5 21 rfl rfl)
theorem dX0_lay_140 : decode cX0_lay 140 = .ok (.aload_n 0, 1) := dk_42 (dk_at dksX0_lay_6 0 rfl rfl)
theorem dX0_lay_141 : decode cX0_lay 141 = .ok (.dup, 1) := dk_89 (dk_at dksX0_lay_6 1 rfl rfl)
theorem dX0_lay_142 : decode cX0_lay 142 = .ok (.getfield 17, 3) := dk_180 0 17 (dk_at dksX0_lay_6 2 rfl rfl)
theorem dX0_lay_145 : decode cX0_lay 145 = .ok (.dup_x1, 1) := dk_90 (dk_at dksX0_lay_6 5 rfl rfl)
theorem dX0_lay_146 : decode cX0_lay 146 = .ok (.iconst 1, 1) := dk_4 (dk_at dksX0_lay_6 6 rfl rfl)
theorem dX0_lay_147 : decode cX0_lay 147 = .ok (.iadd, 1) := dk_96 (dk_at dksX0_lay_6 7 rfl rfl)
theorem dX0_lay_148 : decode cX0_lay 148 = .ok (.putfield 17, 3) := dk_181 0 17 (dk_at dksX0_lay_6 8 rfl rfl)
theorem dX0_lay_151 : decode cX0_lay 151 = .ok (.sipush 128, 3) := dk_17 0 128 (dk_at dksX0_lay_6 11 rfl rfl)
theorem dX0_lay_154 : decode cX0_lay 154 = .ok (.iload_n 2, 1) := dk_28 (dk_at dksX0_lay_6 14 rfl rfl)
theorem dX0_lay_155 : decode cX0_lay 155 = .ok (.bipush 6, 2) := dk_16 6 (dk_at dksX0_lay_6 15 rfl rfl)
theorem dX0_lay_157 : decode cX0_lay 157 = .ok (.ishr, 1) := dk_122 (dk_at dksX0_lay_6 17 rfl rfl)
theorem dX0_lay_158 : decode cX0_lay 158 = .ok (.bipush 63, 2) := dk_16 63 (dk_at dksX0_lay_6 18 rfl rfl)
theorem dX0_lay_160 : decode cX0_lay 160 = .ok (.iand, 1) := dk_126 (dk_at dksX0_lay_6 20 rfl rfl)
theorem dX0_lay_161 : decode cX0_lay 161 = .ok (.ior, 1) := dk_128 (dk_at dksX0_lay_6 21 rfl rfl)
theorem dX0_lay_162 : decode cX0_lay 162 = .ok (.i2b, 1) := dk_145 (dk_at dksX0_lay_6 22 rfl rfl)
theorem dX0_lay_163 : decode cX0_lay 163 = .ok (.bastore, 1) := dk_84 (dk_at dksX0_lay_6 23 rfl rfl)
theorem dX0_lay_164 : decode cX0_lay 164 = .ok (.aload_n 0, 1) := dk_42 (dk_at dksX0_lay_7 0 rfl rfl)
theorem dX0_lay_165 : decode cX0_lay 165 = .ok (.getfield 7, 3) := dk_180 0 7 (dk_at dksX0_lay_7 1 rfl rfl)
theorem dX0_lay_168 : decode cX0_lay 168 = .ok (.aload_n 0, 1) := dk_42 (dk_at dksX0_lay_7 4 rfl rfl)
theorem dX0_lay_169 : decode cX0_lay 169 = .ok (.dup, 1) := dk_89 (dk_at dksX0_lay_7 5 rfl rfl)
theorem dX0_lay_170 : decode cX0_lay 170 = .ok (.getfield 17, 3) := dk_180 0 17 (dk_at dksX0_lay_7 6 rfl rfl)
theorem dX0_lay_173 : decode cX0_lay 173 = .ok (.dup_x1, 1) := dk_90 (dk_at dksX0_lay_7 9 rfl rfl)
theorem dX0_lay_174 : decode cX0_lay 174 = .ok (.iconst 1, 1) := dk_4 (dk_at dksX0_lay_7 10 rfl rfl)
theorem dX0_lay_175 : decode cX0_lay 175 = .ok (.iadd, 1) := dk_96 (dk_at dksX0_lay_7 11 rfl rfl)
theorem dX0_lay_176 : decode cX0_lay 176 = .ok (.putfield 17, 3) := dk_181 0 17 (dk_at dksX0_lay_7 12 rfl rfl)
theorem dX0_lay_179 : decode cX0_lay 179 = .ok (.sipush 128, 3) := dk_17 0 128 (dk_at dksX0_lay_7 15 rfl rfl)
theorem dX0_lay_182 : decode cX0_lay 182 = .ok (.iload_n 2, 1) := dk_28 (dk_at dksX0_lay_7 18 rfl rfl)
theorem dX0_lay_183 : decode cX0_lay 183 = .ok (.bipush 63, 2) := dk_16 63 (dk_at dksX0_lay_7 19 rfl rfl)
theorem dX0_lay_185 : decode cX0_lay 185 = .ok (.iand, 1) := dk_126 (dk_at dksX0_lay_7 21 rfl rfl)
theorem dX0_lay_186 : decode cX0_lay 186 = .ok (.ior, 1) := dk_128 (dk_at dksX0_lay_7 22 rfl rfl)
theorem dX0_lay_187 : decode cX0_lay 187 = .ok (.i2b, 1) := dk_145 (dk_at dksX0_lay_7 23 rfl rfl)
theorem dX0_lay_188 : decode cX0_lay 188 = .ok (.bastore, 1) := dk_84 (dk_at dksX0_lay_8 0 rfl rfl)
theorem dX0_lay_189 : decode cX0_lay 189 = .ok (.goto 109, 3) := dk_167 0 109 (dk_at dksX0_lay_8 1 rfl rfl)
theorem dX0_lay_192 : decode cX0_lay 192 = .ok (.aload_n 0, 1) := dk_42 (dk_at dksX0_lay_8 4 rfl rfl)
theorem dX0_lay_193 : decode cX0_lay 193 = .ok (.getfield 7, 3) := dk_180 0 7 (dk_at dksX0_lay_8 5 rfl rfl)
theorem dX0_lay_196 : decode cX0_lay 196 = .ok (.aload_n 0, 1) := dk_42 (dk_at dksX0_lay_8 8 rfl rfl)
theorem dX0_lay_197 : decode cX0_lay 197 = .ok (.dup, 1) := dk_89 (dk_at dksX0_lay_8 9 rfl rfl)
theorem dX0_lay_198 : decode cX0_lay 198 = .ok (.getfield 17, 3) := dk_180 0 17 (dk_at dksX0_lay_8 10 rfl rfl)
theorem dX0_lay_201 : decode cX0_lay 201 = .ok (.dup_x1, 1) := dk_90 (dk_at dksX0_lay_8 13 rfl rfl)
theorem dX0_lay_202 : decode cX0_lay 202 = .ok (.iconst 1, 1) := dk_4 (dk_at dksX0_lay_8 14 rfl rfl)
theorem dX0_lay_203 : decode cX0_lay 203 = .ok (.iadd, 1) := dk_96 (dk_at dksX0_lay_8 15 rfl rfl)
theorem dX0_lay_204 : decode cX0_lay 204 = .ok (.putfield 17, 3) := dk_181 0 17 (dk_at dksX0_lay_8 16 rfl rfl)
theorem dX0_lay_207 : decode cX0_lay 207 = .ok (.sipush 240, 3) := dk_17 0 240 (dk_at dksX0_lay_8 19 rfl rfl)
theorem dX0_lay_210 : decode cX0_lay 210 = .ok (.iload_n 2, 1) := dk_28 (dk_at dksX0_lay_8 22 rfl rfl)
theorem dX0_lay_211 : decode cX0_lay 211 = .ok (.bipush 18, 2) := dk_16 18 (dk_at dksX0_lay_9 0 rfl rfl)
theorem dX0_lay_213 : decode cX0_lay 213 = .ok (.ishr, 1) := dk_122 (dk_at dksX0_lay_9 2 rfl rfl)
theorem dX0_lay_214 : decode cX0_lay 214 = .ok (.ior, 1) := dk_128 (dk_at dksX0_lay_9 3 rfl rfl)
theorem dX0_lay_215 : decode cX0_lay 215 = .ok (.i2b, 1) := dk_145 (dk_at dksX0_lay_9 4 rfl rfl)
theorem dX0_lay_216 : decode cX0_lay 216 = .ok (.bastore, 1) := dk_84 (dk_at dksX0_lay_9 5 rfl rfl)
theorem dX0_lay_217 : decode cX0_lay 217 = .ok (.aload_n 0, 1) := dk_42 (dk_at dksX0_lay_9 6 rfl rfl)
theorem dX0_lay_218 : decode cX0_lay 218 = .ok (.getfield 7, 3) := dk_180 0 7 (dk_at dksX0_lay_9 7 rfl rfl)
theorem dX0_lay_221 : decode cX0_lay 221 = .ok (.aload_n 0, 1) := dk_42 (dk_at dksX0_lay_9 10 rfl rfl)
theorem dX0_lay_222 : decode cX0_lay 222 = .ok (.dup, 1) := dk_89 (dk_at dksX0_lay_9 11 rfl rfl)
theorem dX0_lay_223 : decode cX0_lay 223 = .ok (.getfield 17, 3) := dk_180 0 17 (dk_at dksX0_lay_9 12 rfl rfl)
theorem dX0_lay_226 : decode cX0_lay 226 = .ok (.dup_x1, 1) := dk_90 (dk_at dksX0_lay_9 15 rfl rfl)
theorem dX0_lay_227 : decode cX0_lay 227 = .ok (.iconst 1, 1) := dk_4 (dk_at dksX0_lay_9 16 rfl rfl)
theorem dX0_lay_228 : decode cX0_lay 228 = .ok (.iadd, 1) := dk_96 (dk_at dksX0_lay_9 17 rfl rfl)
theorem dX0_lay_229 : decode cX0_lay 229 = .ok (.putfield 17, 3) := dk_181 0 17 (dk_at dksX0_lay_9 18 rfl rfl)
theorem dX0_lay_232 : decode cX0_lay 232 = .ok (.sipush 128, 3) := dk_17 0 128 (dk_at dksX0_lay_9 21 rfl rfl)
theorem dX0_lay_235 : decode cX0_lay 235 = .ok (.iload_n 2, 1) := dk_28 (dk_at dksX0_lay_10 0 rfl rfl)
theorem dX0_lay_236 : decode cX0_lay 236 = .ok (.bipush 12, 2) := dk_16 12 (dk_at dksX0_lay_10 1 rfl rfl)
theorem dX0_lay_238 : decode cX0_lay 238 = .ok (.ishr, 1) := dk_122 (dk_at dksX0_lay_10 3 rfl rfl)
theorem dX0_lay_239 : decode cX0_lay 239 = .ok (.bipush 63, 2) := dk_16 63 (dk_at dksX0_lay_10 4 rfl rfl)
theorem dX0_lay_241 : decode cX0_lay 241 = .ok (.iand, 1) := dk_126 (dk_at dksX0_lay_10 6 rfl rfl)
theorem dX0_lay_242 : decode cX0_lay 242 = .ok (.ior, 1) := dk_128 (dk_at dksX0_lay_10 7 rfl rfl)
theorem dX0_lay_243 : decode cX0_lay 243 = .ok (.i2b, 1) := dk_145 (dk_at dksX0_lay_10 8 rfl rfl)
theorem dX0_lay_244 : decode cX0_lay 244 = .ok (.bastore, 1) := dk_84 (dk_at dksX0_lay_10 9 rfl rfl)
theorem dX0_lay_245 : decode cX0_lay 245 = .ok (.aload_n 0, 1) := dk_42 (dk_at dksX0_lay_10 10 rfl rfl)
theorem dX0_lay_246 : decode cX0_lay 246 = .ok (.getfield 7, 3) := dk_180 0 7 (dk_at dksX0_lay_10 11 rfl rfl)
theorem dX0_lay_249 : decode cX0_lay 249 = .ok (.aload_n 0, 1) := dk_42 (dk_at dksX0_lay_10 14 rfl rfl)
theorem dX0_lay_250 : decode cX0_lay 250 = .ok (.dup, 1) := dk_89 (dk_at dksX0_lay_10 15 rfl rfl)
theorem dX0_lay_251 : decode cX0_lay 251 = .ok (.getfield 17, 3) := dk_180 0 17 (dk_at dksX0_lay_10 16 rfl rfl)
theorem dX0_lay_254 : decode cX0_lay 254 = .ok (.dup_x1, 1) := dk_90 (dk_at dksX0_lay_10 19 rfl rfl)
theorem dX0_lay_255 : decode cX0_lay 255 = .ok (.iconst 1, 1) := dk_4 (dk_at dksX0_lay_10 20 rfl rfl)
theorem dX0_lay_256 : decode cX0_lay 256 = .ok (.iadd, 1) := dk_96 (dk_at dksX0_lay_10 21 rfl rfl)
theorem dX0_lay_257 : decode cX0_lay 257 = .ok (.putfield 17, 3) := dk_181 0 17 (dk_at dksX0_lay_11 0 rfl rfl)
theorem dX0_lay_260 : decode cX0_lay 260 = .ok (.sipush 128, 3) := dk_17 0 128 (dk_at dksX0_lay_11 3 rfl rfl)
theorem dX0_lay_263 : decode cX0_lay 263 = .ok (.iload_n 2, 1) := dk_28 (dk_at dksX0_lay_11 6 rfl rfl)
theorem dX0_lay_264 : decode cX0_lay 264 = .ok (.bipush 6, 2) := dk_16 6 (dk_at dksX0_lay_11 7 rfl rfl)
theorem dX0_lay_266 : decode cX0_lay 266 = .ok (.ishr, 1) := dk_122 (dk_at dksX0_lay_11 9 rfl rfl)
theorem dX0_lay_267 : decode cX0_lay 267 = .ok (.bipush 63, 2) := dk_16 63 (dk_at dksX0_lay_11 10 rfl rfl)
theorem dX0_lay_269 : decode cX0_lay 269 = .ok (.iand, 1) := dk_126 (dk_at dksX0_lay_11 12 rfl rfl)
theorem dX0_lay_270 : decode cX0_lay 270 = .ok (.ior, 1) := dk_128 (dk_at dksX0_lay_11 13 rfl rfl)
theorem dX0_lay_271 : decode cX0_lay 271 = .ok (.i2b, 1) := dk_145 (dk_at dksX0_lay_11 14 rfl rfl)
theorem dX0_lay_272 : decode cX0_lay 272 = .ok (.bastore, 1) := dk_84 (dk_at dksX0_lay_11 15 rfl rfl)
theorem dX0_lay_273 : decode cX0_lay 273 = .ok (.aload_n 0, 1) := dk_42 (dk_at dksX0_lay_11 16 rfl rfl)
theorem dX0_lay_274 : decode cX0_lay 274 = .ok (.getfield 7, 3) := dk_180 0 7 (dk_at dksX0_lay_11 17 rfl rfl)
theorem dX0_lay_277 : decode cX0_lay 277 = .ok (.aload_n 0, 1) := dk_42 (dk_at dksX0_lay_11 20 rfl rfl)
theorem dX0_lay_278 : decode cX0_lay 278 = .ok (.dup, 1) := dk_89 (dk_at dksX0_lay_11 21 rfl rfl)
theorem dX0_lay_279 : decode cX0_lay 279 = .ok (.getfield 17, 3) := dk_180 0 17 (dk_at dksX0_lay_12 0 rfl rfl)
theorem dX0_lay_282 : decode cX0_lay 282 = .ok (.dup_x1, 1) := dk_90 (dk_at dksX0_lay_12 3 rfl rfl)
theorem dX0_lay_283 : decode cX0_lay 283 = .ok (.iconst 1, 1) := dk_4 (dk_at dksX0_lay_12 4 rfl rfl)
theorem dX0_lay_284 : decode cX0_lay 284 = .ok (.iadd, 1) := dk_96 (dk_at dksX0_lay_12 5 rfl rfl)
theorem dX0_lay_285 : decode cX0_lay 285 = .ok (.putfield 17, 3) := dk_181 0 17 (dk_at dksX0_lay_12 6 rfl rfl)
theorem dX0_lay_288 : decode cX0_lay 288 = .ok (.sipush 128, 3) := dk_17 0 128 (dk_at dksX0_lay_12 9 rfl rfl)
theorem dX0_lay_291 : decode cX0_lay 291 = .ok (.iload_n 2, 1) := dk_28 (dk_at dksX0_lay_12 12 rfl rfl)
theorem dX0_lay_292 : decode cX0_lay 292 = .ok (.bipush 63, 2) := dk_16 63 (dk_at dksX0_lay_12 13 rfl rfl)
theorem dX0_lay_294 : decode cX0_lay 294 = .ok (.iand, 1) := dk_126 (dk_at dksX0_lay_12 15 rfl rfl)
theorem dX0_lay_295 : decode cX0_lay 295 = .ok (.ior, 1) := dk_128 (dk_at dksX0_lay_12 16 rfl rfl)
theorem dX0_lay_296 : decode cX0_lay 296 = .ok (.i2b, 1) := dk_145 (dk_at dksX0_lay_12 17 rfl rfl)
theorem dX0_lay_297 : decode cX0_lay 297 = .ok (.bastore, 1) := dk_84 (dk_at dksX0_lay_12 18 rfl rfl)
theorem dX0_lay_298 : decode cX0_lay 298 = .ok (.aload_n 0, 1) := dk_42 (dk_at dksX0_lay_12 19 rfl rfl)
theorem dX0_lay_299 : decode cX0_lay 299 = .ok (.getfield 17, 3) := dk_180 0 17 (dk_at dksX0_lay_12 20 rfl rfl)
theorem dX0_lay_302 : decode cX0_lay 302 = .ok (.ireturn, 1) := dk_172 (dk_at dksX0_lay_12 23 rfl rfl)
abbrev cX0_spoil : ByteArray := prog_2_method_3_code
def yX0_spoil : MethodName := ⟨RX0, "spoil", "(II)V"⟩
def dkwX0_spoil_0 : List UInt8 := [42, 180, 0, 17, 158, 0, 19, 42, 180, 0, 7, 27, 18, 23, 126, 42, 180, 0, 17, 112, 28, 145, 84, 177]
abbrev dktX0_spoil_0 : List UInt8 := dkwX0_spoil_0 ++ []
theorem dksX0_spoil_0 : cX0_spoil.data.toList.drop 0 = dktX0_spoil_0 := by decide +kernel
theorem dX0_spoil_0 : decode cX0_spoil 0 = .ok (.aload_n 0, 1) := dk_42 (dk_at dksX0_spoil_0 0 rfl rfl)
theorem dX0_spoil_1 : decode cX0_spoil 1 = .ok (.getfield 17, 3) := dk_180 0 17 (dk_at dksX0_spoil_0 1 rfl rfl)
theorem dX0_spoil_4 : decode cX0_spoil 4 = .ok (.ifCond .le 19, 3) := dk_158 0 19 (dk_at dksX0_spoil_0 4 rfl rfl)
theorem dX0_spoil_7 : decode cX0_spoil 7 = .ok (.aload_n 0, 1) := dk_42 (dk_at dksX0_spoil_0 7 rfl rfl)
theorem dX0_spoil_8 : decode cX0_spoil 8 = .ok (.getfield 7, 3) := dk_180 0 7 (dk_at dksX0_spoil_0 8 rfl rfl)
theorem dX0_spoil_11 : decode cX0_spoil 11 = .ok (.iload_n 1, 1) := dk_27 (dk_at dksX0_spoil_0 11 rfl rfl)
theorem dX0_spoil_12 : decode cX0_spoil 12 = .ok (.ldc 23, 2) := dk_18 23 (dk_at dksX0_spoil_0 12 rfl rfl)
theorem dX0_spoil_14 : decode cX0_spoil 14 = .ok (.iand, 1) := dk_126 (dk_at dksX0_spoil_0 14 rfl rfl)
theorem dX0_spoil_15 : decode cX0_spoil 15 = .ok (.aload_n 0, 1) := dk_42 (dk_at dksX0_spoil_0 15 rfl rfl)
theorem dX0_spoil_16 : decode cX0_spoil 16 = .ok (.getfield 17, 3) := dk_180 0 17 (dk_at dksX0_spoil_0 16 rfl rfl)
theorem dX0_spoil_19 : decode cX0_spoil 19 = .ok (.irem, 1) := dk_112 (dk_at dksX0_spoil_0 19 rfl rfl)
theorem dX0_spoil_20 : decode cX0_spoil 20 = .ok (.iload_n 2, 1) := dk_28 (dk_at dksX0_spoil_0 20 rfl rfl)
theorem dX0_spoil_21 : decode cX0_spoil 21 = .ok (.i2b, 1) := dk_145 (dk_at dksX0_spoil_0 21 rfl rfl)
theorem dX0_spoil_22 : decode cX0_spoil 22 = .ok (.bastore, 1) := dk_84 (dk_at dksX0_spoil_0 22 rfl rfl)
theorem dX0_spoil_23 : decode cX0_spoil 23 = .ok (.return_, 1) := dk_177 (dk_at dksX0_spoil_0 23 rfl rfl)
abbrev cX0_cut : ByteArray := prog_2_method_4_code
def yX0_cut : MethodName := ⟨RX0, "cut", "(I)V"⟩
def dkwX0_cut_0 : List UInt8 := [42, 27, 18, 23, 126, 42, 180, 0, 17, 4, 96, 112, 181, 0, 17, 177]
abbrev dktX0_cut_0 : List UInt8 := dkwX0_cut_0 ++ []
theorem dksX0_cut_0 : cX0_cut.data.toList.drop 0 = dktX0_cut_0 := by decide +kernel
theorem dX0_cut_0 : decode cX0_cut 0 = .ok (.aload_n 0, 1) := dk_42 (dk_at dksX0_cut_0 0 rfl rfl)
theorem dX0_cut_1 : decode cX0_cut 1 = .ok (.iload_n 1, 1) := dk_27 (dk_at dksX0_cut_0 1 rfl rfl)
theorem dX0_cut_2 : decode cX0_cut 2 = .ok (.ldc 23, 2) := dk_18 23 (dk_at dksX0_cut_0 2 rfl rfl)
theorem dX0_cut_4 : decode cX0_cut 4 = .ok (.iand, 1) := dk_126 (dk_at dksX0_cut_0 4 rfl rfl)
theorem dX0_cut_5 : decode cX0_cut 5 = .ok (.aload_n 0, 1) := dk_42 (dk_at dksX0_cut_0 5 rfl rfl)
theorem dX0_cut_6 : decode cX0_cut 6 = .ok (.getfield 17, 3) := dk_180 0 17 (dk_at dksX0_cut_0 6 rfl rfl)
theorem dX0_cut_9 : decode cX0_cut 9 = .ok (.iconst 1, 1) := dk_4 (dk_at dksX0_cut_0 9 rfl rfl)
theorem dX0_cut_10 : decode cX0_cut 10 = .ok (.iadd, 1) := dk_96 (dk_at dksX0_cut_0 10 rfl rfl)
theorem dX0_cut_11 : decode cX0_cut 11 = .ok (.irem, 1) := dk_112 (dk_at dksX0_cut_0 11 rfl rfl)
theorem dX0_cut_12 : decode cX0_cut 12 = .ok (.putfield 17, 3) := dk_181 0 17 (dk_at dksX0_cut_0 12 rfl rfl)
theorem dX0_cut_15 : decode cX0_cut 15 = .ok (.return_, 1) := dk_177 (dk_at dksX0_cut_0 15 rfl rfl)
abbrev cX0_size : ByteArray := prog_2_method_5_code
def yX0_size : MethodName := ⟨RX0, "size", "()I"⟩
theorem dX0_size_0 : decode cX0_size 0 = .ok (.aload_n 0, 1) := by decide +kernel
theorem dX0_size_1 : decode cX0_size 1 = .ok (.getfield 17, 3) := by decide +kernel
theorem dX0_size_4 : decode cX0_size 4 = .ok (.ireturn, 1) := by decide +kernel
abbrev cX0_read : ByteArray := prog_2_method_6_code
def yX0_read : MethodName := ⟨RX0, "read", "(II)I"⟩
def dkwX0_read_1 : List UInt8 := [180, 0, 17, 29, 100, 4, 96, 112, 42, 180, 0, 13, 184, 0, 24, 181, 0, 30, 42, 180, 0, 30, 172]
abbrev dktX0_read_1 : List UInt8 := dkwX0_read_1 ++ []
def dkwX0_read_0 : List UInt8 := [27, 18, 23, 126, 42, 180, 0, 17, 4, 96, 112, 62, 42, 42, 180, 0, 7, 29, 28, 18, 23, 126, 42]
abbrev dktX0_read_0 : List UInt8 := dkwX0_read_0 ++ dktX0_read_1
theorem dksX0_read_0 : cX0_read.data.toList.drop 0 = dktX0_read_0 := by decide +kernel
theorem dksX0_read_1 : cX0_read.data.toList.drop 23 = dktX0_read_1 := dk_seg dksX0_read_0 23 rfl rfl
theorem dX0_read_0 : decode cX0_read 0 = .ok (.iload_n 1, 1) := dk_27 (dk_at dksX0_read_0 0 rfl rfl)
theorem dX0_read_1 : decode cX0_read 1 = .ok (.ldc 23, 2) := dk_18 23 (dk_at dksX0_read_0 1 rfl rfl)
theorem dX0_read_3 : decode cX0_read 3 = .ok (.iand, 1) := dk_126 (dk_at dksX0_read_0 3 rfl rfl)
theorem dX0_read_4 : decode cX0_read 4 = .ok (.aload_n 0, 1) := dk_42 (dk_at dksX0_read_0 4 rfl rfl)
theorem dX0_read_5 : decode cX0_read 5 = .ok (.getfield 17, 3) := dk_180 0 17 (dk_at dksX0_read_0 5 rfl rfl)
theorem dX0_read_8 : decode cX0_read 8 = .ok (.iconst 1, 1) := dk_4 (dk_at dksX0_read_0 8 rfl rfl)
theorem dX0_read_9 : decode cX0_read 9 = .ok (.iadd, 1) := dk_96 (dk_at dksX0_read_0 9 rfl rfl)
theorem dX0_read_10 : decode cX0_read 10 = .ok (.irem, 1) := dk_112 (dk_at dksX0_read_0 10 rfl rfl)
theorem dX0_read_11 : decode cX0_read 11 = .ok (.istore_n 3, 1) := dk_62 (dk_at dksX0_read_0 11 rfl rfl)
theorem dX0_read_12 : decode cX0_read 12 = .ok (.aload_n 0, 1) := dk_42 (dk_at dksX0_read_0 12 rfl rfl)
theorem dX0_read_13 : decode cX0_read 13 = .ok (.aload_n 0, 1) := dk_42 (dk_at dksX0_read_0 13 rfl rfl)
theorem dX0_read_14 : decode cX0_read 14 = .ok (.getfield 7, 3) := dk_180 0 7 (dk_at dksX0_read_0 14 rfl rfl)
theorem dX0_read_17 : decode cX0_read 17 = .ok (.iload_n 3, 1) := dk_29 (dk_at dksX0_read_0 17 rfl rfl)
theorem dX0_read_18 : decode cX0_read 18 = .ok (.iload_n 2, 1) := dk_28 (dk_at dksX0_read_0 18 rfl rfl)
theorem dX0_read_19 : decode cX0_read 19 = .ok (.ldc 23, 2) := dk_18 23 (dk_at dksX0_read_0 19 rfl rfl)
theorem dX0_read_21 : decode cX0_read 21 = .ok (.iand, 1) := dk_126 (dk_at dksX0_read_0 21 rfl rfl)
theorem dX0_read_22 : decode cX0_read 22 = .ok (.aload_n 0, 1) := dk_42 (dk_at dksX0_read_0 22 rfl rfl)
theorem dX0_read_23 : decode cX0_read 23 = .ok (.getfield 17, 3) := dk_180 0 17 (dk_at dksX0_read_1 0 rfl rfl)
theorem dX0_read_26 : decode cX0_read 26 = .ok (.iload_n 3, 1) := dk_29 (dk_at dksX0_read_1 3 rfl rfl)
theorem dX0_read_27 : decode cX0_read 27 = .ok (.isub, 1) := dk_100 (dk_at dksX0_read_1 4 rfl rfl)
theorem dX0_read_28 : decode cX0_read 28 = .ok (.iconst 1, 1) := dk_4 (dk_at dksX0_read_1 5 rfl rfl)
theorem dX0_read_29 : decode cX0_read 29 = .ok (.iadd, 1) := dk_96 (dk_at dksX0_read_1 6 rfl rfl)
theorem dX0_read_30 : decode cX0_read 30 = .ok (.irem, 1) := dk_112 (dk_at dksX0_read_1 7 rfl rfl)
theorem dX0_read_31 : decode cX0_read 31 = .ok (.aload_n 0, 1) := dk_42 (dk_at dksX0_read_1 8 rfl rfl)
theorem dX0_read_32 : decode cX0_read 32 = .ok (.getfield 13, 3) := dk_180 0 13 (dk_at dksX0_read_1 9 rfl rfl)
theorem dX0_read_35 : decode cX0_read 35 = .ok (.invokestatic 24, 3) := dk_184 0 24 (dk_at dksX0_read_1 12 rfl rfl)
theorem dX0_read_38 : decode cX0_read 38 = .ok (.putfield 30, 3) := dk_181 0 30 (dk_at dksX0_read_1 15 rfl rfl)
theorem dX0_read_41 : decode cX0_read 41 = .ok (.aload_n 0, 1) := dk_42 (dk_at dksX0_read_1 18 rfl rfl)
theorem dX0_read_42 : decode cX0_read 42 = .ok (.getfield 30, 3) := dk_180 0 30 (dk_at dksX0_read_1 19 rfl rfl)
theorem dX0_read_45 : decode cX0_read 45 = .ok (.ireturn, 1) := dk_172 (dk_at dksX0_read_1 22 rfl rfl)
abbrev cX0_letter : ByteArray := prog_2_method_7_code
def yX0_letter : MethodName := ⟨RX0, "letter", "(I)I"⟩
def dkwX0_letter_1 : List UInt8 := [52, 172]
abbrev dktX0_letter_1 : List UInt8 := dkwX0_letter_1 ++ []
def dkwX0_letter_0 : List UInt8 := [42, 180, 0, 30, 157, 0, 7, 2, 167, 0, 17, 42, 180, 0, 13, 27, 18, 23, 126, 42, 180, 0, 30, 112]
abbrev dktX0_letter_0 : List UInt8 := dkwX0_letter_0 ++ dktX0_letter_1
theorem dksX0_letter_0 : cX0_letter.data.toList.drop 0 = dktX0_letter_0 := by decide +kernel
theorem dksX0_letter_1 : cX0_letter.data.toList.drop 24 = dktX0_letter_1 := dk_seg dksX0_letter_0 24 rfl rfl
theorem dX0_letter_0 : decode cX0_letter 0 = .ok (.aload_n 0, 1) := dk_42 (dk_at dksX0_letter_0 0 rfl rfl)
theorem dX0_letter_1 : decode cX0_letter 1 = .ok (.getfield 30, 3) := dk_180 0 30 (dk_at dksX0_letter_0 1 rfl rfl)
theorem dX0_letter_4 : decode cX0_letter 4 = .ok (.ifCond .gt 7, 3) := dk_157 0 7 (dk_at dksX0_letter_0 4 rfl rfl)
theorem dX0_letter_7 : decode cX0_letter 7 = .ok (.iconst (-1), 1) := dk_2 (dk_at dksX0_letter_0 7 rfl rfl)
theorem dX0_letter_8 : decode cX0_letter 8 = .ok (.goto 17, 3) := dk_167 0 17 (dk_at dksX0_letter_0 8 rfl rfl)
theorem dX0_letter_11 : decode cX0_letter 11 = .ok (.aload_n 0, 1) := dk_42 (dk_at dksX0_letter_0 11 rfl rfl)
theorem dX0_letter_12 : decode cX0_letter 12 = .ok (.getfield 13, 3) := dk_180 0 13 (dk_at dksX0_letter_0 12 rfl rfl)
theorem dX0_letter_15 : decode cX0_letter 15 = .ok (.iload_n 1, 1) := dk_27 (dk_at dksX0_letter_0 15 rfl rfl)
theorem dX0_letter_16 : decode cX0_letter 16 = .ok (.ldc 23, 2) := dk_18 23 (dk_at dksX0_letter_0 16 rfl rfl)
theorem dX0_letter_18 : decode cX0_letter 18 = .ok (.iand, 1) := dk_126 (dk_at dksX0_letter_0 18 rfl rfl)
theorem dX0_letter_19 : decode cX0_letter 19 = .ok (.aload_n 0, 1) := dk_42 (dk_at dksX0_letter_0 19 rfl rfl)
theorem dX0_letter_20 : decode cX0_letter 20 = .ok (.getfield 30, 3) := dk_180 0 30 (dk_at dksX0_letter_0 20 rfl rfl)
theorem dX0_letter_23 : decode cX0_letter 23 = .ok (.irem, 1) := dk_112 (dk_at dksX0_letter_0 23 rfl rfl)
theorem dX0_letter_24 : decode cX0_letter 24 = .ok (.caload, 1) := dk_52 (dk_at dksX0_letter_1 0 rfl rfl)
theorem dX0_letter_25 : decode cX0_letter 25 = .ok (.ireturn, 1) := dk_172 (dk_at dksX0_letter_1 1 rfl rfl)
theorem q2 : (Jvm.Cond.initialized "WireLetters") ∈ lw_all := lw_g (lw_at lw_m0 1 rfl) rfl
theorem q6 : (Jvm.Cond.instantiable "WireLetters" (4 : Nat)) ∈ lw_all := lw_g (lw_at lw_m0 5 rfl) rfl
theorem q8 : (Jvm.Cond.instanceMethod ({ cls := "WireLetters", name := "<init>", desc := "()V" } : Jvm.MethodName)) ∈ lw_all := lw_g (lw_at lw_m0 7 rfl) rfl
theorem q9 : (Jvm.Cond.code ({ cls := "WireLetters", name := "<init>", desc := "()V" } : Jvm.MethodName) prog_2_method_1_code (1 : Nat) (Option.none : Option Jvm.ClassFile.FieldType)) ∈ lw_all := lw_g (lw_at lw_m0 8 rfl) rfl
theorem q10 : (Jvm.Cond.methodLink "WireLetters" (1 : Nat) ({ cls := "java/lang/Object", name := "<init>", desc := "()V" } : Jvm.MethodName)) ∈ lw_all := lw_g (lw_at lw_m0 9 rfl) rfl
theorem q13 : (Jvm.Cond.fieldLink "WireLetters" (7 : Nat) "WireLetters" "text" "[B") ∈ lw_all := lw_g (lw_at lw_m0 12 rfl) rfl
theorem q14 : (Jvm.Cond.fieldLink "WireLetters" (13 : Nat) "WireLetters" "letters" "[C") ∈ lw_all := lw_g (lw_at lw_m0 13 rfl) rfl
theorem q15 : (Jvm.Cond.fieldLink "WireLetters" (17 : Nat) "WireLetters" "size" "I") ∈ lw_all := lw_g (lw_at lw_m0 14 rfl) rfl
theorem q16 : (Jvm.Cond.fieldLink "WireLetters" (30 : Nat) "WireLetters" "read" "I") ∈ lw_all := lw_g (lw_at lw_m0 15 rfl) rfl
theorem q17 : (Jvm.Cond.laysFinal "WireLetters" "WireLetters" "text" "[B") ∈ lw_all := lw_g (lw_at lw_m0 16 rfl) rfl
theorem q18 : (Jvm.Cond.soleField "WireLetters" "text") ∈ lw_all := lw_g (lw_at lw_m0 17 rfl) rfl
theorem q19 : (Jvm.Cond.laysFinal "WireLetters" "WireLetters" "letters" "[C") ∈ lw_all := lw_g (lw_at lw_m0 18 rfl) rfl
theorem q20 : (Jvm.Cond.soleField "WireLetters" "letters") ∈ lw_all := lw_g (lw_at lw_m0 19 rfl) rfl
theorem q21 : (Jvm.Cond.lays "WireLetters" "WireLetters" "size" "I") ∈ lw_all := lw_g (lw_at lw_m0 20 rfl) rfl
theorem q22 : (Jvm.Cond.soleField "WireLetters" "size") ∈ lw_all := lw_g (lw_at lw_m0 21 rfl) rfl
theorem q23 : (Jvm.Cond.lays "WireLetters" "WireLetters" "read" "I") ∈ lw_all := lw_g (lw_at lw_m0 22 rfl) rfl
theorem q24 : (Jvm.Cond.soleField "WireLetters" "read") ∈ lw_all := lw_g (lw_at lw_m0 23 rfl) rfl
theorem q25 : (Jvm.Cond.superclass "WireLetters" "java/lang/Object") ∈ lw_all := lw_g (lw_at lw_m0 24 rfl) rfl
theorem q29 : (Jvm.Cond.instanceMethod ({ cls := "WireLetters", name := "lay", desc := "(I)I" } : Jvm.MethodName)) ∈ lw_all := lw_g (lw_at lw_m0 28 rfl) rfl
theorem q30 : (Jvm.Cond.selects "WireLetters" ({ cls := "WireLetters", name := "lay", desc := "(I)I" } : Jvm.MethodName) ({ cls := "WireLetters", name := "lay", desc := "(I)I" } : Jvm.MethodName)) ∈ lw_all := lw_g (lw_at lw_m0 29 rfl) rfl
theorem q31 : (Jvm.Cond.code ({ cls := "WireLetters", name := "lay", desc := "(I)I" } : Jvm.MethodName) prog_2_method_2_code (3 : Nat) (Option.some Jvm.ClassFile.FieldType.int)) ∈ lw_all := lw_g (lw_at lw_m0 30 rfl) rfl
theorem q32 : (Jvm.Cond.constant "WireLetters" (21 : Nat) (2097151 : Int32)) ∈ lw_all := lw_g (lw_at lw_m0 31 rfl) rfl
theorem q33 : (Jvm.Cond.constant "WireLetters" (22 : Nat) (65536 : Int32)) ∈ lw_all := lw_g (lw_at lw_m0 32 rfl) rfl
theorem q35 : (Jvm.Cond.instanceMethod ({ cls := "WireLetters", name := "spoil", desc := "(II)V" } : Jvm.MethodName)) ∈ lw_all := lw_g (lw_at lw_m0 34 rfl) rfl
theorem q36 : (Jvm.Cond.selects "WireLetters" ({ cls := "WireLetters", name := "spoil", desc := "(II)V" } : Jvm.MethodName) ({ cls := "WireLetters", name := "spoil", desc := "(II)V" } : Jvm.MethodName)) ∈ lw_all := lw_g (lw_at lw_m0 35 rfl) rfl
theorem q37 : (Jvm.Cond.code ({ cls := "WireLetters", name := "spoil", desc := "(II)V" } : Jvm.MethodName) prog_2_method_3_code (3 : Nat) (Option.none : Option Jvm.ClassFile.FieldType)) ∈ lw_all := lw_g (lw_at lw_m0 36 rfl) rfl
theorem q38 : (Jvm.Cond.constant "WireLetters" (23 : Nat) (2147483647 : Int32)) ∈ lw_all := lw_g (lw_at lw_m0 37 rfl) rfl
theorem q40 : (Jvm.Cond.instanceMethod ({ cls := "WireLetters", name := "cut", desc := "(I)V" } : Jvm.MethodName)) ∈ lw_all := lw_g (lw_at lw_m0 39 rfl) rfl
theorem q41 : (Jvm.Cond.selects "WireLetters" ({ cls := "WireLetters", name := "cut", desc := "(I)V" } : Jvm.MethodName) ({ cls := "WireLetters", name := "cut", desc := "(I)V" } : Jvm.MethodName)) ∈ lw_all := lw_g (lw_at lw_m0 40 rfl) rfl
theorem q42 : (Jvm.Cond.code ({ cls := "WireLetters", name := "cut", desc := "(I)V" } : Jvm.MethodName) prog_2_method_4_code (2 : Nat) (Option.none : Option Jvm.ClassFile.FieldType)) ∈ lw_all := lw_g (lw_at lw_m0 41 rfl) rfl
theorem q44 : (Jvm.Cond.instanceMethod ({ cls := "WireLetters", name := "size", desc := "()I" } : Jvm.MethodName)) ∈ lw_all := lw_g (lw_at lw_m0 43 rfl) rfl
theorem q45 : (Jvm.Cond.selects "WireLetters" ({ cls := "WireLetters", name := "size", desc := "()I" } : Jvm.MethodName) ({ cls := "WireLetters", name := "size", desc := "()I" } : Jvm.MethodName)) ∈ lw_all := lw_g (lw_at lw_m0 44 rfl) rfl
theorem q46 : (Jvm.Cond.code ({ cls := "WireLetters", name := "size", desc := "()I" } : Jvm.MethodName) prog_2_method_5_code (1 : Nat) (Option.some Jvm.ClassFile.FieldType.int)) ∈ lw_all := lw_g (lw_at lw_m0 45 rfl) rfl
theorem q48 : (Jvm.Cond.instanceMethod ({ cls := "WireLetters", name := "read", desc := "(II)I" } : Jvm.MethodName)) ∈ lw_all := lw_g (lw_at lw_m0 47 rfl) rfl
theorem q49 : (Jvm.Cond.selects "WireLetters" ({ cls := "WireLetters", name := "read", desc := "(II)I" } : Jvm.MethodName) ({ cls := "WireLetters", name := "read", desc := "(II)I" } : Jvm.MethodName)) ∈ lw_all := lw_g (lw_at lw_m0 48 rfl) rfl
theorem q50 : (Jvm.Cond.code ({ cls := "WireLetters", name := "read", desc := "(II)I" } : Jvm.MethodName) prog_2_method_6_code (4 : Nat) (Option.some Jvm.ClassFile.FieldType.int)) ∈ lw_all := lw_g (lw_at lw_m0 49 rfl) rfl
theorem q51 : (Jvm.Cond.methodLink "WireLetters" (24 : Nat) ({ cls := "UTF8", name := "transcodeToUTF16", desc := "([BII[C)I" } : Jvm.MethodName)) ∈ lw_all := lw_g (lw_at lw_m0 50 rfl) rfl
theorem q62 : (Jvm.Cond.instanceMethod ({ cls := "WireLetters", name := "letter", desc := "(I)I" } : Jvm.MethodName)) ∈ lw_all := lw_g (lw_at lw_m0 61 rfl) rfl
theorem q63 : (Jvm.Cond.selects "WireLetters" ({ cls := "WireLetters", name := "letter", desc := "(I)I" } : Jvm.MethodName) ({ cls := "WireLetters", name := "letter", desc := "(I)I" } : Jvm.MethodName)) ∈ lw_all := lw_g (lw_at lw_m0 62 rfl) rfl
theorem q64 : (Jvm.Cond.code ({ cls := "WireLetters", name := "letter", desc := "(I)I" } : Jvm.MethodName) prog_2_method_7_code (2 : Nat) (Option.some Jvm.ClassFile.FieldType.int)) ∈ lw_all := lw_g (lw_at lw_m0 63 rfl) rfl
theorem in_X0 : ∀ w ∈ wsX00, w ∈ lw_all := lw_in wsX00 [17, 19, 21, 23] (by decide +kernel) (by decide +kernel)

/-! WireLettersModel -/
set_option maxRecDepth 100000
def RX1 : String := "WireLettersModel"
def TX1 : u_T := fun k => match k with
  | 0 => ("WireLettersModel", "text", "[I", true)
  | 1 => ("WireLettersModel", "letters", "[I", true)
  | 2 => ("WireLettersModel", "size", "I", false)
  | _ => ("WireLettersModel", "read", "I", false)
def tyX1 : Nat → FieldType := fun k => match k with
  | 0 => .array .int
  | 1 => .array .int
  | 2 => .int
  | _ => .int
abbrev wsX10 : List Cond := u_ws RX1 TX1 4
theorem nmX1 : ∀ a, a < 4 → ∀ b, b < 4 → a ≠ b → (TX1 a).2.1 ≠ (TX1 b).2.1 := by decide +kernel
theorem tyX1_ok : ∀ k, k < 4 → parseFieldDescriptor (TX1 k).2.2.1 = some (tyX1 k) := by decide +kernel
abbrev cX1_init : ByteArray := prog_4_method_1_code
def yX1_init : MethodName := ⟨RX1, "<init>", "()V"⟩
def dkwX1_init_0 : List UInt8 := [42, 183, 0, 1, 42, 17, 4, 0, 188, 10, 181, 0, 7, 42, 17, 4, 0, 188, 10, 181, 0, 13, 177]
abbrev dktX1_init_0 : List UInt8 := dkwX1_init_0 ++ []
theorem dksX1_init_0 : cX1_init.data.toList.drop 0 = dktX1_init_0 := by decide +kernel
theorem dX1_init_0 : decode cX1_init 0 = .ok (.aload_n 0, 1) := dk_42 (dk_at dksX1_init_0 0 rfl rfl)
theorem dX1_init_1 : decode cX1_init 1 = .ok (.invokespecial 1, 3) := dk_183 0 1 (dk_at dksX1_init_0 1 rfl rfl)
theorem dX1_init_4 : decode cX1_init 4 = .ok (.aload_n 0, 1) := dk_42 (dk_at dksX1_init_0 4 rfl rfl)
theorem dX1_init_5 : decode cX1_init 5 = .ok (.sipush 1024, 3) := dk_17 4 0 (dk_at dksX1_init_0 5 rfl rfl)
theorem dX1_init_8 : decode cX1_init 8 = .ok (.newarray .int, 2) := dk_188_10 (dk_at dksX1_init_0 8 rfl rfl)
theorem dX1_init_10 : decode cX1_init 10 = .ok (.putfield 7, 3) := dk_181 0 7 (dk_at dksX1_init_0 10 rfl rfl)
theorem dX1_init_13 : decode cX1_init 13 = .ok (.aload_n 0, 1) := dk_42 (dk_at dksX1_init_0 13 rfl rfl)
theorem dX1_init_14 : decode cX1_init 14 = .ok (.sipush 1024, 3) := dk_17 4 0 (dk_at dksX1_init_0 14 rfl rfl)
theorem dX1_init_17 : decode cX1_init 17 = .ok (.newarray .int, 2) := dk_188_10 (dk_at dksX1_init_0 17 rfl rfl)
theorem dX1_init_19 : decode cX1_init 19 = .ok (.putfield 13, 3) := dk_181 0 13 (dk_at dksX1_init_0 19 rfl rfl)
theorem dX1_init_22 : decode cX1_init 22 = .ok (.return_, 1) := dk_177 (dk_at dksX1_init_0 22 rfl rfl)
abbrev cX1_lay : ByteArray := prog_4_method_3_code
def yX1_lay : MethodName := ⟨RX1, "lay", "(I)I"⟩
def dkwX1_lay_6 : List UInt8 := [172]
abbrev dktX1_lay_6 : List UInt8 := dkwX1_lay_6 ++ []
def dkwX1_lay_5 : List UInt8 := [28, 16, 6, 21, 4, 104, 122, 16, 63, 126, 96, 182, 0, 22, 132, 4, 255, 167, 255, 230, 42, 180, 0, 16]
abbrev dktX1_lay_5 : List UInt8 := dkwX1_lay_5 ++ dktX1_lay_6
def dkwX1_lay_4 : List UInt8 := [104, 122, 96, 17, 0, 255, 126, 182, 0, 22, 29, 4, 100, 54, 4, 21, 4, 155, 0, 27, 42, 17, 0, 128]
abbrev dktX1_lay_4 : List UInt8 := dkwX1_lay_4 ++ dktX1_lay_5
def dkwX1_lay_3 : List UInt8 := [17, 0, 192, 167, 0, 17, 29, 5, 160, 0, 9, 17, 0, 224, 167, 0, 6, 17, 0, 240, 28, 16, 6, 29]
abbrev dktX1_lay_3 : List UInt8 := dkwX1_lay_3 ++ dktX1_lay_4
def dkwX1_lay_2 : List UInt8 := [167, 0, 4, 6, 62, 29, 154, 0, 11, 42, 28, 182, 0, 22, 167, 0, 77, 42, 29, 4, 160, 0, 9]
abbrev dktX1_lay_2 : List UInt8 := dkwX1_lay_2 ++ dktX1_lay_3
def dkwX1_lay_1 : List UInt8 := [3, 167, 0, 25, 28, 17, 8, 0, 162, 0, 7, 4, 167, 0, 14, 28, 18, 21, 162, 0, 7, 5]
abbrev dktX1_lay_1 : List UInt8 := dkwX1_lay_1 ++ dktX1_lay_2
def dkwX1_lay_0 : List UInt8 := [42, 180, 0, 16, 17, 3, 252, 164, 0, 5, 2, 172, 27, 18, 20, 126, 61, 28, 17, 0, 128, 162, 0, 7]
abbrev dktX1_lay_0 : List UInt8 := dkwX1_lay_0 ++ dktX1_lay_1
theorem dksX1_lay_0 : cX1_lay.data.toList.drop 0 = dktX1_lay_0 := by decide +kernel
theorem dksX1_lay_1 : cX1_lay.data.toList.drop 24 = dktX1_lay_1 := dk_seg dksX1_lay_0 24 rfl rfl
theorem dksX1_lay_2 : cX1_lay.data.toList.drop 46 = dktX1_lay_2 := dk_seg dksX1_lay_1 22 rfl rfl
theorem dksX1_lay_3 : cX1_lay.data.toList.drop 69 = dktX1_lay_3 := dk_seg dksX1_lay_2 23 rfl rfl
theorem dksX1_lay_4 : cX1_lay.data.toList.drop 93 = dktX1_lay_4 := dk_seg dksX1_lay_3 24 rfl rfl
theorem dksX1_lay_5 : cX1_lay.data.toList.drop 117 = dktX1_lay_5 := dk_seg dksX1_lay_4 24 rfl rfl
theorem dksX1_lay_6 : cX1_lay.data.toList.drop 141 = dktX1_lay_6 := dk_seg dksX1_lay_5 24 rfl rfl
theorem dX1_lay_0 : decode cX1_lay 0 = .ok (.aload_n 0, 1) := dk_42 (dk_at dksX1_lay_0 0 rfl rfl)
theorem dX1_lay_1 : decode cX1_lay 1 = .ok (.getfield 16, 3) := dk_180 0 16 (dk_at dksX1_lay_0 1 rfl rfl)
theorem dX1_lay_4 : decode cX1_lay 4 = .ok (.sipush 1020, 3) := dk_17 3 252 (dk_at dksX1_lay_0 4 rfl rfl)
theorem dX1_lay_7 : decode cX1_lay 7 = .ok (.if_icmp .le 5, 3) := dk_164 0 5 (dk_at dksX1_lay_0 7 rfl rfl)
theorem dX1_lay_10 : decode cX1_lay 10 = .ok (.iconst (-1), 1) := dk_2 (dk_at dksX1_lay_0 10 rfl rfl)
theorem dX1_lay_11 : decode cX1_lay 11 = .ok (.ireturn, 1) := dk_172 (dk_at dksX1_lay_0 11 rfl rfl)
theorem dX1_lay_12 : decode cX1_lay 12 = .ok (.iload_n 1, 1) := dk_27 (dk_at dksX1_lay_0 12 rfl rfl)
theorem dX1_lay_13 : decode cX1_lay 13 = .ok (.ldc 20, 2) := dk_18 20 (dk_at dksX1_lay_0 13 rfl rfl)
theorem dX1_lay_15 : decode cX1_lay 15 = .ok (.iand, 1) := dk_126 (dk_at dksX1_lay_0 15 rfl rfl)
theorem dX1_lay_16 : decode cX1_lay 16 = .ok (.istore_n 2, 1) := dk_61 (dk_at dksX1_lay_0 16 rfl rfl)
theorem dX1_lay_17 : decode cX1_lay 17 = .ok (.iload_n 2, 1) := dk_28 (dk_at dksX1_lay_0 17 rfl rfl)
theorem dX1_lay_18 : decode cX1_lay 18 = .ok (.sipush 128, 3) := dk_17 0 128 (dk_at dksX1_lay_0 18 rfl rfl)
theorem dX1_lay_21 : decode cX1_lay 21 = .ok (.if_icmp .ge 7, 3) := dk_162 0 7 (dk_at dksX1_lay_0 21 rfl rfl)
theorem dX1_lay_24 : decode cX1_lay 24 = .ok (.iconst 0, 1) := dk_3 (dk_at dksX1_lay_1 0 rfl rfl)
theorem dX1_lay_25 : decode cX1_lay 25 = .ok (.goto 25, 3) := dk_167 0 25 (dk_at dksX1_lay_1 1 rfl rfl)
theorem dX1_lay_28 : decode cX1_lay 28 = .ok (.iload_n 2, 1) := dk_28 (dk_at dksX1_lay_1 4 rfl rfl)
theorem dX1_lay_29 : decode cX1_lay 29 = .ok (.sipush 2048, 3) := dk_17 8 0 (dk_at dksX1_lay_1 5 rfl rfl)
theorem dX1_lay_32 : decode cX1_lay 32 = .ok (.if_icmp .ge 7, 3) := dk_162 0 7 (dk_at dksX1_lay_1 8 rfl rfl)
theorem dX1_lay_35 : decode cX1_lay 35 = .ok (.iconst 1, 1) := dk_4 (dk_at dksX1_lay_1 11 rfl rfl)
theorem dX1_lay_36 : decode cX1_lay 36 = .ok (.goto 14, 3) := dk_167 0 14 (dk_at dksX1_lay_1 12 rfl rfl)
theorem dX1_lay_39 : decode cX1_lay 39 = .ok (.iload_n 2, 1) := dk_28 (dk_at dksX1_lay_1 15 rfl rfl)
theorem dX1_lay_40 : decode cX1_lay 40 = .ok (.ldc 21, 2) := dk_18 21 (dk_at dksX1_lay_1 16 rfl rfl)
theorem dX1_lay_42 : decode cX1_lay 42 = .ok (.if_icmp .ge 7, 3) := dk_162 0 7 (dk_at dksX1_lay_1 18 rfl rfl)
theorem dX1_lay_45 : decode cX1_lay 45 = .ok (.iconst 2, 1) := dk_5 (dk_at dksX1_lay_1 21 rfl rfl)
theorem dX1_lay_46 : decode cX1_lay 46 = .ok (.goto 4, 3) := dk_167 0 4 (dk_at dksX1_lay_2 0 rfl rfl)
theorem dX1_lay_49 : decode cX1_lay 49 = .ok (.iconst 3, 1) := dk_6 (dk_at dksX1_lay_2 3 rfl rfl)
theorem dX1_lay_50 : decode cX1_lay 50 = .ok (.istore_n 3, 1) := dk_62 (dk_at dksX1_lay_2 4 rfl rfl)
theorem dX1_lay_51 : decode cX1_lay 51 = .ok (.iload_n 3, 1) := dk_29 (dk_at dksX1_lay_2 5 rfl rfl)
theorem dX1_lay_52 : decode cX1_lay 52 = .ok (.ifCond .ne 11, 3) := dk_154 0 11 (dk_at dksX1_lay_2 6 rfl rfl)
theorem dX1_lay_55 : decode cX1_lay 55 = .ok (.aload_n 0, 1) := dk_42 (dk_at dksX1_lay_2 9 rfl rfl)
theorem dX1_lay_56 : decode cX1_lay 56 = .ok (.iload_n 2, 1) := dk_28 (dk_at dksX1_lay_2 10 rfl rfl)
theorem dX1_lay_57 : decode cX1_lay 57 = .ok (.invokevirtual 22, 3) := dk_182 0 22 (dk_at dksX1_lay_2 11 rfl rfl)
theorem dX1_lay_60 : decode cX1_lay 60 = .ok (.goto 77, 3) := dk_167 0 77 (dk_at dksX1_lay_2 14 rfl rfl)
theorem dX1_lay_63 : decode cX1_lay 63 = .ok (.aload_n 0, 1) := dk_42 (dk_at dksX1_lay_2 17 rfl rfl)
theorem dX1_lay_64 : decode cX1_lay 64 = .ok (.iload_n 3, 1) := dk_29 (dk_at dksX1_lay_2 18 rfl rfl)
theorem dX1_lay_65 : decode cX1_lay 65 = .ok (.iconst 1, 1) := dk_4 (dk_at dksX1_lay_2 19 rfl rfl)
theorem dX1_lay_66 : decode cX1_lay 66 = .ok (.if_icmp .ne 9, 3) := dk_160 0 9 (dk_at dksX1_lay_2 20 rfl rfl)
theorem dX1_lay_69 : decode cX1_lay 69 = .ok (.sipush 192, 3) := dk_17 0 192 (dk_at dksX1_lay_3 0 rfl rfl)
theorem dX1_lay_72 : decode cX1_lay 72 = .ok (.goto 17, 3) := dk_167 0 17 (dk_at dksX1_lay_3 3 rfl rfl)
theorem dX1_lay_75 : decode cX1_lay 75 = .ok (.iload_n 3, 1) := dk_29 (dk_at dksX1_lay_3 6 rfl rfl)
theorem dX1_lay_76 : decode cX1_lay 76 = .ok (.iconst 2, 1) := dk_5 (dk_at dksX1_lay_3 7 rfl rfl)
theorem dX1_lay_77 : decode cX1_lay 77 = .ok (.if_icmp .ne 9, 3) := dk_160 0 9 (dk_at dksX1_lay_3 8 rfl rfl)
theorem dX1_lay_80 : decode cX1_lay 80 = .ok (.sipush 224, 3) := dk_17 0 224 (dk_at dksX1_lay_3 11 rfl rfl)
theorem dX1_lay_83 : decode cX1_lay 83 = .ok (.goto 6, 3) := dk_167 0 6 (dk_at dksX1_lay_3 14 rfl rfl)
theorem dX1_lay_86 : decode cX1_lay 86 = .ok (.sipush 240, 3) := dk_17 0 240 (dk_at dksX1_lay_3 17 rfl rfl)
theorem dX1_lay_89 : decode cX1_lay 89 = .ok (.iload_n 2, 1) := dk_28 (dk_at dksX1_lay_3 20 rfl rfl)
theorem dX1_lay_90 : decode cX1_lay 90 = .ok (.bipush 6, 2) := dk_16 6 (dk_at dksX1_lay_3 21 rfl rfl)
theorem dX1_lay_92 : decode cX1_lay 92 = .ok (.iload_n 3, 1) := dk_29 (dk_at dksX1_lay_3 23 rfl rfl)
theorem dX1_lay_93 : decode cX1_lay 93 = .ok (.imul, 1) := dk_104 (dk_at dksX1_lay_4 0 rfl rfl)
theorem dX1_lay_94 : decode cX1_lay 94 = .ok (.ishr, 1) := dk_122 (dk_at dksX1_lay_4 1 rfl rfl)
theorem dX1_lay_95 : decode cX1_lay 95 = .ok (.iadd, 1) := dk_96 (dk_at dksX1_lay_4 2 rfl rfl)
theorem dX1_lay_96 : decode cX1_lay 96 = .ok (.sipush 255, 3) := dk_17 0 255 (dk_at dksX1_lay_4 3 rfl rfl)
theorem dX1_lay_99 : decode cX1_lay 99 = .ok (.iand, 1) := dk_126 (dk_at dksX1_lay_4 6 rfl rfl)
theorem dX1_lay_100 : decode cX1_lay 100 = .ok (.invokevirtual 22, 3) := dk_182 0 22 (dk_at dksX1_lay_4 7 rfl rfl)
theorem dX1_lay_103 : decode cX1_lay 103 = .ok (.iload_n 3, 1) := dk_29 (dk_at dksX1_lay_4 10 rfl rfl)
theorem dX1_lay_104 : decode cX1_lay 104 = .ok (.iconst 1, 1) := dk_4 (dk_at dksX1_lay_4 11 rfl rfl)
theorem dX1_lay_105 : decode cX1_lay 105 = .ok (.isub, 1) := dk_100 (dk_at dksX1_lay_4 12 rfl rfl)
theorem dX1_lay_106 : decode cX1_lay 106 = .ok (.istore 4, 2) := dk_54 4 (dk_at dksX1_lay_4 13 rfl rfl)
theorem dX1_lay_108 : decode cX1_lay 108 = .ok (.iload 4, 2) := dk_21 4 (dk_at dksX1_lay_4 15 rfl rfl)
theorem dX1_lay_110 : decode cX1_lay 110 = .ok (.ifCond .lt 27, 3) := dk_155 0 27 (dk_at dksX1_lay_4 17 rfl rfl)
theorem dX1_lay_113 : decode cX1_lay 113 = .ok (.aload_n 0, 1) := dk_42 (dk_at dksX1_lay_4 20 rfl rfl)
theorem dX1_lay_114 : decode cX1_lay 114 = .ok (.sipush 128, 3) := dk_17 0 128 (dk_at dksX1_lay_4 21 rfl rfl)
theorem dX1_lay_117 : decode cX1_lay 117 = .ok (.iload_n 2, 1) := dk_28 (dk_at dksX1_lay_5 0 rfl rfl)
theorem dX1_lay_118 : decode cX1_lay 118 = .ok (.bipush 6, 2) := dk_16 6 (dk_at dksX1_lay_5 1 rfl rfl)
theorem dX1_lay_120 : decode cX1_lay 120 = .ok (.iload 4, 2) := dk_21 4 (dk_at dksX1_lay_5 3 rfl rfl)
theorem dX1_lay_122 : decode cX1_lay 122 = .ok (.imul, 1) := dk_104 (dk_at dksX1_lay_5 5 rfl rfl)
theorem dX1_lay_123 : decode cX1_lay 123 = .ok (.ishr, 1) := dk_122 (dk_at dksX1_lay_5 6 rfl rfl)
theorem dX1_lay_124 : decode cX1_lay 124 = .ok (.bipush 63, 2) := dk_16 63 (dk_at dksX1_lay_5 7 rfl rfl)
theorem dX1_lay_126 : decode cX1_lay 126 = .ok (.iand, 1) := dk_126 (dk_at dksX1_lay_5 9 rfl rfl)
theorem dX1_lay_127 : decode cX1_lay 127 = .ok (.iadd, 1) := dk_96 (dk_at dksX1_lay_5 10 rfl rfl)
theorem dX1_lay_128 : decode cX1_lay 128 = .ok (.invokevirtual 22, 3) := dk_182 0 22 (dk_at dksX1_lay_5 11 rfl rfl)
theorem dX1_lay_131 : decode cX1_lay 131 = .ok (.iinc 4 (-1), 3) := dk_132 4 255 (dk_at dksX1_lay_5 14 rfl rfl)
theorem dX1_lay_134 : decode cX1_lay 134 = .ok (.goto (-26), 3) := dk_167 255 230 (dk_at dksX1_lay_5 17 rfl rfl)
theorem dX1_lay_137 : decode cX1_lay 137 = .ok (.aload_n 0, 1) := dk_42 (dk_at dksX1_lay_5 20 rfl rfl)
theorem dX1_lay_138 : decode cX1_lay 138 = .ok (.getfield 16, 3) := dk_180 0 16 (dk_at dksX1_lay_5 21 rfl rfl)
theorem dX1_lay_141 : decode cX1_lay 141 = .ok (.ireturn, 1) := dk_172 (dk_at dksX1_lay_6 0 rfl rfl)
abbrev cX1_push : ByteArray := prog_4_method_2_code
def yX1_push : MethodName := ⟨RX1, "push", "(I)V"⟩
def dkwX1_push_0 : List UInt8 := [42, 180, 0, 7, 42, 180, 0, 16, 27, 79, 42, 89, 180, 0, 16, 4, 96, 181, 0, 16, 177]
abbrev dktX1_push_0 : List UInt8 := dkwX1_push_0 ++ []
theorem dksX1_push_0 : cX1_push.data.toList.drop 0 = dktX1_push_0 := by decide +kernel
theorem dX1_push_0 : decode cX1_push 0 = .ok (.aload_n 0, 1) := dk_42 (dk_at dksX1_push_0 0 rfl rfl)
theorem dX1_push_1 : decode cX1_push 1 = .ok (.getfield 7, 3) := dk_180 0 7 (dk_at dksX1_push_0 1 rfl rfl)
theorem dX1_push_4 : decode cX1_push 4 = .ok (.aload_n 0, 1) := dk_42 (dk_at dksX1_push_0 4 rfl rfl)
theorem dX1_push_5 : decode cX1_push 5 = .ok (.getfield 16, 3) := dk_180 0 16 (dk_at dksX1_push_0 5 rfl rfl)
theorem dX1_push_8 : decode cX1_push 8 = .ok (.iload_n 1, 1) := dk_27 (dk_at dksX1_push_0 8 rfl rfl)
theorem dX1_push_9 : decode cX1_push 9 = .ok (.iastore, 1) := dk_79 (dk_at dksX1_push_0 9 rfl rfl)
theorem dX1_push_10 : decode cX1_push 10 = .ok (.aload_n 0, 1) := dk_42 (dk_at dksX1_push_0 10 rfl rfl)
theorem dX1_push_11 : decode cX1_push 11 = .ok (.dup, 1) := dk_89 (dk_at dksX1_push_0 11 rfl rfl)
theorem dX1_push_12 : decode cX1_push 12 = .ok (.getfield 16, 3) := dk_180 0 16 (dk_at dksX1_push_0 12 rfl rfl)
theorem dX1_push_15 : decode cX1_push 15 = .ok (.iconst 1, 1) := dk_4 (dk_at dksX1_push_0 15 rfl rfl)
theorem dX1_push_16 : decode cX1_push 16 = .ok (.iadd, 1) := dk_96 (dk_at dksX1_push_0 16 rfl rfl)
theorem dX1_push_17 : decode cX1_push 17 = .ok (.putfield 16, 3) := dk_181 0 16 (dk_at dksX1_push_0 17 rfl rfl)
theorem dX1_push_20 : decode cX1_push 20 = .ok (.return_, 1) := dk_177 (dk_at dksX1_push_0 20 rfl rfl)
abbrev cX1_spoil : ByteArray := prog_4_method_4_code
def yX1_spoil : MethodName := ⟨RX1, "spoil", "(II)V"⟩
def dkwX1_spoil_1 : List UInt8 := [126, 79, 177]
abbrev dktX1_spoil_1 : List UInt8 := dkwX1_spoil_1 ++ []
def dkwX1_spoil_0 : List UInt8 := [42, 180, 0, 16, 158, 0, 22, 42, 180, 0, 7, 27, 18, 26, 126, 42, 180, 0, 16, 112, 28, 17, 0, 255]
abbrev dktX1_spoil_0 : List UInt8 := dkwX1_spoil_0 ++ dktX1_spoil_1
theorem dksX1_spoil_0 : cX1_spoil.data.toList.drop 0 = dktX1_spoil_0 := by decide +kernel
theorem dksX1_spoil_1 : cX1_spoil.data.toList.drop 24 = dktX1_spoil_1 := dk_seg dksX1_spoil_0 24 rfl rfl
theorem dX1_spoil_0 : decode cX1_spoil 0 = .ok (.aload_n 0, 1) := dk_42 (dk_at dksX1_spoil_0 0 rfl rfl)
theorem dX1_spoil_1 : decode cX1_spoil 1 = .ok (.getfield 16, 3) := dk_180 0 16 (dk_at dksX1_spoil_0 1 rfl rfl)
theorem dX1_spoil_4 : decode cX1_spoil 4 = .ok (.ifCond .le 22, 3) := dk_158 0 22 (dk_at dksX1_spoil_0 4 rfl rfl)
theorem dX1_spoil_7 : decode cX1_spoil 7 = .ok (.aload_n 0, 1) := dk_42 (dk_at dksX1_spoil_0 7 rfl rfl)
theorem dX1_spoil_8 : decode cX1_spoil 8 = .ok (.getfield 7, 3) := dk_180 0 7 (dk_at dksX1_spoil_0 8 rfl rfl)
theorem dX1_spoil_11 : decode cX1_spoil 11 = .ok (.iload_n 1, 1) := dk_27 (dk_at dksX1_spoil_0 11 rfl rfl)
theorem dX1_spoil_12 : decode cX1_spoil 12 = .ok (.ldc 26, 2) := dk_18 26 (dk_at dksX1_spoil_0 12 rfl rfl)
theorem dX1_spoil_14 : decode cX1_spoil 14 = .ok (.iand, 1) := dk_126 (dk_at dksX1_spoil_0 14 rfl rfl)
theorem dX1_spoil_15 : decode cX1_spoil 15 = .ok (.aload_n 0, 1) := dk_42 (dk_at dksX1_spoil_0 15 rfl rfl)
theorem dX1_spoil_16 : decode cX1_spoil 16 = .ok (.getfield 16, 3) := dk_180 0 16 (dk_at dksX1_spoil_0 16 rfl rfl)
theorem dX1_spoil_19 : decode cX1_spoil 19 = .ok (.irem, 1) := dk_112 (dk_at dksX1_spoil_0 19 rfl rfl)
theorem dX1_spoil_20 : decode cX1_spoil 20 = .ok (.iload_n 2, 1) := dk_28 (dk_at dksX1_spoil_0 20 rfl rfl)
theorem dX1_spoil_21 : decode cX1_spoil 21 = .ok (.sipush 255, 3) := dk_17 0 255 (dk_at dksX1_spoil_0 21 rfl rfl)
theorem dX1_spoil_24 : decode cX1_spoil 24 = .ok (.iand, 1) := dk_126 (dk_at dksX1_spoil_1 0 rfl rfl)
theorem dX1_spoil_25 : decode cX1_spoil 25 = .ok (.iastore, 1) := dk_79 (dk_at dksX1_spoil_1 1 rfl rfl)
theorem dX1_spoil_26 : decode cX1_spoil 26 = .ok (.return_, 1) := dk_177 (dk_at dksX1_spoil_1 2 rfl rfl)
abbrev cX1_cut : ByteArray := prog_4_method_5_code
def yX1_cut : MethodName := ⟨RX1, "cut", "(I)V"⟩
def dkwX1_cut_0 : List UInt8 := [42, 27, 18, 26, 126, 42, 180, 0, 16, 4, 96, 112, 181, 0, 16, 177]
abbrev dktX1_cut_0 : List UInt8 := dkwX1_cut_0 ++ []
theorem dksX1_cut_0 : cX1_cut.data.toList.drop 0 = dktX1_cut_0 := by decide +kernel
theorem dX1_cut_0 : decode cX1_cut 0 = .ok (.aload_n 0, 1) := dk_42 (dk_at dksX1_cut_0 0 rfl rfl)
theorem dX1_cut_1 : decode cX1_cut 1 = .ok (.iload_n 1, 1) := dk_27 (dk_at dksX1_cut_0 1 rfl rfl)
theorem dX1_cut_2 : decode cX1_cut 2 = .ok (.ldc 26, 2) := dk_18 26 (dk_at dksX1_cut_0 2 rfl rfl)
theorem dX1_cut_4 : decode cX1_cut 4 = .ok (.iand, 1) := dk_126 (dk_at dksX1_cut_0 4 rfl rfl)
theorem dX1_cut_5 : decode cX1_cut 5 = .ok (.aload_n 0, 1) := dk_42 (dk_at dksX1_cut_0 5 rfl rfl)
theorem dX1_cut_6 : decode cX1_cut 6 = .ok (.getfield 16, 3) := dk_180 0 16 (dk_at dksX1_cut_0 6 rfl rfl)
theorem dX1_cut_9 : decode cX1_cut 9 = .ok (.iconst 1, 1) := dk_4 (dk_at dksX1_cut_0 9 rfl rfl)
theorem dX1_cut_10 : decode cX1_cut 10 = .ok (.iadd, 1) := dk_96 (dk_at dksX1_cut_0 10 rfl rfl)
theorem dX1_cut_11 : decode cX1_cut 11 = .ok (.irem, 1) := dk_112 (dk_at dksX1_cut_0 11 rfl rfl)
theorem dX1_cut_12 : decode cX1_cut 12 = .ok (.putfield 16, 3) := dk_181 0 16 (dk_at dksX1_cut_0 12 rfl rfl)
theorem dX1_cut_15 : decode cX1_cut 15 = .ok (.return_, 1) := dk_177 (dk_at dksX1_cut_0 15 rfl rfl)
abbrev cX1_size : ByteArray := prog_4_method_6_code
def yX1_size : MethodName := ⟨RX1, "size", "()I"⟩
theorem dX1_size_0 : decode cX1_size 0 = .ok (.aload_n 0, 1) := by decide +kernel
theorem dX1_size_1 : decode cX1_size 1 = .ok (.getfield 16, 3) := by decide +kernel
theorem dX1_size_4 : decode cX1_size 4 = .ok (.ireturn, 1) := by decide +kernel
abbrev cX1_read : ByteArray := prog_4_method_7_code
def yX1_read : MethodName := ⟨RX1, "read", "(II)I"⟩
def dkwX1_read_17 : List UInt8 := [167, 254, 145, 42, 180, 0, 27, 172]
abbrev dktX1_read_17 : List UInt8 := dkwX1_read_17 ++ []
def dkwX1_read_16 : List UInt8 := [42, 180, 0, 27, 21, 7, 79, 42, 42, 180, 0, 27, 4, 96, 181, 0, 27, 29, 21, 6, 96, 4, 96, 62]
abbrev dktX1_read_16 : List UInt8 := dkwX1_read_16 ++ dktX1_read_17
def dkwX1_read_15 : List UInt8 := [100, 17, 3, 255, 126, 96, 79, 42, 42, 180, 0, 27, 5, 96, 181, 0, 27, 167, 0, 24, 42, 180, 0, 13]
abbrev dktX1_read_15 : List UInt8 := dkwX1_read_15 ++ dktX1_read_16
def dkwX1_read_14 : List UInt8 := [18, 21, 100, 16, 10, 122, 96, 79, 42, 180, 0, 13, 42, 180, 0, 27, 4, 96, 18, 33, 21, 7, 18, 21]
abbrev dktX1_read_14 : List UInt8 := dkwX1_read_14 ++ dktX1_read_15
def dkwX1_read_13 : List UInt8 := [2, 181, 0, 27, 2, 172, 21, 6, 6, 160, 0, 59, 42, 180, 0, 13, 42, 180, 0, 27, 18, 30, 21, 7]
abbrev dktX1_read_13 : List UInt8 := dkwX1_read_13 ++ dktX1_read_14
def dkwX1_read_12 : List UInt8 := [161, 0, 23, 21, 6, 6, 160, 0, 24, 21, 7, 18, 21, 161, 0, 10, 21, 7, 18, 32, 164, 0, 10, 42]
abbrev dktX1_read_12 : List UInt8 := dkwX1_read_12 ++ dktX1_read_13
def dkwX1_read_11 : List UInt8 := [5, 160, 0, 25, 21, 7, 17, 8, 0, 161, 0, 37, 21, 7, 18, 30, 161, 0, 10, 21, 7, 18, 31]
abbrev dktX1_read_11 : List UInt8 := dkwX1_read_11 ++ dktX1_read_12
def dkwX1_read_10 : List UInt8 := [2, 172, 21, 7, 16, 64, 104, 21, 9, 96, 17, 0, 128, 100, 54, 7, 132, 8, 1, 167, 255, 198, 21, 6]
abbrev dktX1_read_10 : List UInt8 := dkwX1_read_10 ++ dktX1_read_11
def dkwX1_read_9 : List UInt8 := [46, 54, 9, 21, 9, 17, 0, 128, 161, 0, 11, 21, 9, 17, 0, 191, 164, 0, 10, 42, 2, 181, 0, 27]
abbrev dktX1_read_9 : List UInt8 := dkwX1_read_9 ++ dktX1_read_10
def dkwX1_read_8 : List UInt8 := [17, 0, 240, 100, 54, 7, 4, 54, 8, 21, 8, 21, 6, 163, 0, 57, 42, 180, 0, 7, 29, 21, 8, 96]
abbrev dktX1_read_8 : List UInt8 := dkwX1_read_8 ++ dktX1_read_9
def dkwX1_read_7 : List UInt8 := [17, 0, 192, 100, 167, 0, 24, 21, 6, 5, 160, 0, 12, 21, 5, 17, 0, 224, 100, 167, 0, 9, 21, 5]
abbrev dktX1_read_7 : List UInt8 := dkwX1_read_7 ++ dktX1_read_8
def dkwX1_read_6 : List UInt8 := [181, 0, 27, 2, 172, 21, 6, 154, 0, 8, 21, 5, 167, 0, 39, 21, 6, 4, 160, 0, 12, 21, 5]
abbrev dktX1_read_6 : List UInt8 := dkwX1_read_6 ++ dktX1_read_7
def dkwX1_read_5 : List UInt8 := [167, 0, 4, 2, 54, 6, 21, 6, 155, 0, 12, 29, 21, 6, 96, 21, 4, 161, 0, 10, 42, 2]
abbrev dktX1_read_5 : List UInt8 := dkwX1_read_5 ++ dktX1_read_6
def dkwX1_read_4 : List UInt8 := [162, 0, 7, 5, 167, 0, 24, 21, 5, 17, 0, 240, 161, 0, 15, 21, 5, 17, 0, 245, 162, 0, 7, 6]
abbrev dktX1_read_4 : List UInt8 := dkwX1_read_4 ++ dktX1_read_5
def dkwX1_read_3 : List UInt8 := [17, 0, 224, 162, 0, 7, 4, 167, 0, 44, 21, 5, 17, 0, 224, 161, 0, 15, 21, 5, 17, 0, 240]
abbrev dktX1_read_3 : List UInt8 := dkwX1_read_3 ++ dktX1_read_4
def dkwX1_read_2 : List UInt8 := [21, 5, 17, 0, 128, 162, 0, 7, 3, 167, 0, 64, 21, 5, 17, 0, 194, 161, 0, 15, 21, 5]
abbrev dktX1_read_2 : List UInt8 := dkwX1_read_2 ++ dktX1_read_3
def dkwX1_read_1 : List UInt8 := [96, 112, 96, 54, 4, 42, 3, 181, 0, 27, 29, 21, 4, 162, 1, 111, 42, 180, 0, 7, 29, 46, 54, 5]
abbrev dktX1_read_1 : List UInt8 := dkwX1_read_1 ++ dktX1_read_2
def dkwX1_read_0 : List UInt8 := [27, 18, 26, 126, 42, 180, 0, 16, 4, 96, 112, 62, 29, 28, 18, 26, 126, 42, 180, 0, 16, 29, 100, 4]
abbrev dktX1_read_0 : List UInt8 := dkwX1_read_0 ++ dktX1_read_1
theorem dksX1_read_0 : cX1_read.data.toList.drop 0 = dktX1_read_0 := by decide +kernel
theorem dksX1_read_1 : cX1_read.data.toList.drop 24 = dktX1_read_1 := dk_seg dksX1_read_0 24 rfl rfl
theorem dksX1_read_2 : cX1_read.data.toList.drop 48 = dktX1_read_2 := dk_seg dksX1_read_1 24 rfl rfl
theorem dksX1_read_3 : cX1_read.data.toList.drop 70 = dktX1_read_3 := dk_seg dksX1_read_2 22 rfl rfl
theorem dksX1_read_4 : cX1_read.data.toList.drop 93 = dktX1_read_4 := dk_seg dksX1_read_3 23 rfl rfl
theorem dksX1_read_5 : cX1_read.data.toList.drop 117 = dktX1_read_5 := dk_seg dksX1_read_4 24 rfl rfl
theorem dksX1_read_6 : cX1_read.data.toList.drop 139 = dktX1_read_6 := dk_seg dksX1_read_5 22 rfl rfl
theorem dksX1_read_7 : cX1_read.data.toList.drop 162 = dktX1_read_7 := dk_seg dksX1_read_6 23 rfl rfl
theorem dksX1_read_8 : cX1_read.data.toList.drop 186 = dktX1_read_8 := dk_seg dksX1_read_7 24 rfl rfl
theorem dksX1_read_9 : cX1_read.data.toList.drop 210 = dktX1_read_9 := dk_seg dksX1_read_8 24 rfl rfl
theorem dksX1_read_10 : cX1_read.data.toList.drop 234 = dktX1_read_10 := dk_seg dksX1_read_9 24 rfl rfl
theorem dksX1_read_11 : cX1_read.data.toList.drop 258 = dktX1_read_11 := dk_seg dksX1_read_10 24 rfl rfl
theorem dksX1_read_12 : cX1_read.data.toList.drop 281 = dktX1_read_12 := dk_seg dksX1_read_11 23 rfl rfl
theorem dksX1_read_13 : cX1_read.data.toList.drop 305 = dktX1_read_13 := dk_seg dksX1_read_12 24 rfl rfl
theorem dksX1_read_14 : cX1_read.data.toList.drop 329 = dktX1_read_14 := dk_seg dksX1_read_13 24 rfl rfl
theorem dksX1_read_15 : cX1_read.data.toList.drop 353 = dktX1_read_15 := dk_seg dksX1_read_14 24 rfl rfl
theorem dksX1_read_16 : cX1_read.data.toList.drop 377 = dktX1_read_16 := dk_seg dksX1_read_15 24 rfl rfl
theorem dksX1_read_17 : cX1_read.data.toList.drop 401 = dktX1_read_17 := dk_seg dksX1_read_16 24 rfl rfl
theorem dX1_read_0 : decode cX1_read 0 = .ok (.iload_n 1, 1) := dk_27 (dk_at dksX1_read_0 0 rfl rfl)
theorem dX1_read_1 : decode cX1_read 1 = .ok (.ldc 26, 2) := dk_18 26 (dk_at dksX1_read_0 1 rfl rfl)
theorem dX1_read_3 : decode cX1_read 3 = .ok (.iand, 1) := dk_126 (dk_at dksX1_read_0 3 rfl rfl)
theorem dX1_read_4 : decode cX1_read 4 = .ok (.aload_n 0, 1) := dk_42 (dk_at dksX1_read_0 4 rfl rfl)
theorem dX1_read_5 : decode cX1_read 5 = .ok (.getfield 16, 3) := dk_180 0 16 (dk_at dksX1_read_0 5 rfl rfl)
theorem dX1_read_8 : decode cX1_read 8 = .ok (.iconst 1, 1) := dk_4 (dk_at dksX1_read_0 8 rfl rfl)
theorem dX1_read_9 : decode cX1_read 9 = .ok (.iadd, 1) := dk_96 (dk_at dksX1_read_0 9 rfl rfl)
theorem dX1_read_10 : decode cX1_read 10 = .ok (.irem, 1) := dk_112 (dk_at dksX1_read_0 10 rfl rfl)
theorem dX1_read_11 : decode cX1_read 11 = .ok (.istore_n 3, 1) := dk_62 (dk_at dksX1_read_0 11 rfl rfl)
theorem dX1_read_12 : decode cX1_read 12 = .ok (.iload_n 3, 1) := dk_29 (dk_at dksX1_read_0 12 rfl rfl)
theorem dX1_read_13 : decode cX1_read 13 = .ok (.iload_n 2, 1) := dk_28 (dk_at dksX1_read_0 13 rfl rfl)
theorem dX1_read_14 : decode cX1_read 14 = .ok (.ldc 26, 2) := dk_18 26 (dk_at dksX1_read_0 14 rfl rfl)
theorem dX1_read_16 : decode cX1_read 16 = .ok (.iand, 1) := dk_126 (dk_at dksX1_read_0 16 rfl rfl)
theorem dX1_read_17 : decode cX1_read 17 = .ok (.aload_n 0, 1) := dk_42 (dk_at dksX1_read_0 17 rfl rfl)
theorem dX1_read_18 : decode cX1_read 18 = .ok (.getfield 16, 3) := dk_180 0 16 (dk_at dksX1_read_0 18 rfl rfl)
theorem dX1_read_21 : decode cX1_read 21 = .ok (.iload_n 3, 1) := dk_29 (dk_at dksX1_read_0 21 rfl rfl)
theorem dX1_read_22 : decode cX1_read 22 = .ok (.isub, 1) := dk_100 (dk_at dksX1_read_0 22 rfl rfl)
theorem dX1_read_23 : decode cX1_read 23 = .ok (.iconst 1, 1) := dk_4 (dk_at dksX1_read_0 23 rfl rfl)
theorem dX1_read_24 : decode cX1_read 24 = .ok (.iadd, 1) := dk_96 (dk_at dksX1_read_1 0 rfl rfl)
theorem dX1_read_25 : decode cX1_read 25 = .ok (.irem, 1) := dk_112 (dk_at dksX1_read_1 1 rfl rfl)
theorem dX1_read_26 : decode cX1_read 26 = .ok (.iadd, 1) := dk_96 (dk_at dksX1_read_1 2 rfl rfl)
theorem dX1_read_27 : decode cX1_read 27 = .ok (.istore 4, 2) := dk_54 4 (dk_at dksX1_read_1 3 rfl rfl)
theorem dX1_read_29 : decode cX1_read 29 = .ok (.aload_n 0, 1) := dk_42 (dk_at dksX1_read_1 5 rfl rfl)
theorem dX1_read_30 : decode cX1_read 30 = .ok (.iconst 0, 1) := dk_3 (dk_at dksX1_read_1 6 rfl rfl)
theorem dX1_read_31 : decode cX1_read 31 = .ok (.putfield 27, 3) := dk_181 0 27 (dk_at dksX1_read_1 7 rfl rfl)
theorem dX1_read_34 : decode cX1_read 34 = .ok (.iload_n 3, 1) := dk_29 (dk_at dksX1_read_1 10 rfl rfl)
theorem dX1_read_35 : decode cX1_read 35 = .ok (.iload 4, 2) := dk_21 4 (dk_at dksX1_read_1 11 rfl rfl)
theorem dX1_read_37 : decode cX1_read 37 = .ok (.if_icmp .ge 367, 3) := dk_162 1 111 (dk_at dksX1_read_1 13 rfl rfl)
theorem dX1_read_40 : decode cX1_read 40 = .ok (.aload_n 0, 1) := dk_42 (dk_at dksX1_read_1 16 rfl rfl)
theorem dX1_read_41 : decode cX1_read 41 = .ok (.getfield 7, 3) := dk_180 0 7 (dk_at dksX1_read_1 17 rfl rfl)
theorem dX1_read_44 : decode cX1_read 44 = .ok (.iload_n 3, 1) := dk_29 (dk_at dksX1_read_1 20 rfl rfl)
theorem dX1_read_45 : decode cX1_read 45 = .ok (.iaload, 1) := dk_46 (dk_at dksX1_read_1 21 rfl rfl)
theorem dX1_read_46 : decode cX1_read 46 = .ok (.istore 5, 2) := dk_54 5 (dk_at dksX1_read_1 22 rfl rfl)
theorem dX1_read_48 : decode cX1_read 48 = .ok (.iload 5, 2) := dk_21 5 (dk_at dksX1_read_2 0 rfl rfl)
theorem dX1_read_50 : decode cX1_read 50 = .ok (.sipush 128, 3) := dk_17 0 128 (dk_at dksX1_read_2 2 rfl rfl)
theorem dX1_read_53 : decode cX1_read 53 = .ok (.if_icmp .ge 7, 3) := dk_162 0 7 (dk_at dksX1_read_2 5 rfl rfl)
theorem dX1_read_56 : decode cX1_read 56 = .ok (.iconst 0, 1) := dk_3 (dk_at dksX1_read_2 8 rfl rfl)
theorem dX1_read_57 : decode cX1_read 57 = .ok (.goto 64, 3) := dk_167 0 64 (dk_at dksX1_read_2 9 rfl rfl)
theorem dX1_read_60 : decode cX1_read 60 = .ok (.iload 5, 2) := dk_21 5 (dk_at dksX1_read_2 12 rfl rfl)
theorem dX1_read_62 : decode cX1_read 62 = .ok (.sipush 194, 3) := dk_17 0 194 (dk_at dksX1_read_2 14 rfl rfl)
theorem dX1_read_65 : decode cX1_read 65 = .ok (.if_icmp .lt 15, 3) := dk_161 0 15 (dk_at dksX1_read_2 17 rfl rfl)
theorem dX1_read_68 : decode cX1_read 68 = .ok (.iload 5, 2) := dk_21 5 (dk_at dksX1_read_2 20 rfl rfl)
theorem dX1_read_70 : decode cX1_read 70 = .ok (.sipush 224, 3) := dk_17 0 224 (dk_at dksX1_read_3 0 rfl rfl)
theorem dX1_read_73 : decode cX1_read 73 = .ok (.if_icmp .ge 7, 3) := dk_162 0 7 (dk_at dksX1_read_3 3 rfl rfl)
theorem dX1_read_76 : decode cX1_read 76 = .ok (.iconst 1, 1) := dk_4 (dk_at dksX1_read_3 6 rfl rfl)
theorem dX1_read_77 : decode cX1_read 77 = .ok (.goto 44, 3) := dk_167 0 44 (dk_at dksX1_read_3 7 rfl rfl)
theorem dX1_read_80 : decode cX1_read 80 = .ok (.iload 5, 2) := dk_21 5 (dk_at dksX1_read_3 10 rfl rfl)
theorem dX1_read_82 : decode cX1_read 82 = .ok (.sipush 224, 3) := dk_17 0 224 (dk_at dksX1_read_3 12 rfl rfl)
theorem dX1_read_85 : decode cX1_read 85 = .ok (.if_icmp .lt 15, 3) := dk_161 0 15 (dk_at dksX1_read_3 15 rfl rfl)
theorem dX1_read_88 : decode cX1_read 88 = .ok (.iload 5, 2) := dk_21 5 (dk_at dksX1_read_3 18 rfl rfl)
theorem dX1_read_90 : decode cX1_read 90 = .ok (.sipush 240, 3) := dk_17 0 240 (dk_at dksX1_read_3 20 rfl rfl)
theorem dX1_read_93 : decode cX1_read 93 = .ok (.if_icmp .ge 7, 3) := dk_162 0 7 (dk_at dksX1_read_4 0 rfl rfl)
theorem dX1_read_96 : decode cX1_read 96 = .ok (.iconst 2, 1) := dk_5 (dk_at dksX1_read_4 3 rfl rfl)
theorem dX1_read_97 : decode cX1_read 97 = .ok (.goto 24, 3) := dk_167 0 24 (dk_at dksX1_read_4 4 rfl rfl)
theorem dX1_read_100 : decode cX1_read 100 = .ok (.iload 5, 2) := dk_21 5 (dk_at dksX1_read_4 7 rfl rfl)
theorem dX1_read_102 : decode cX1_read 102 = .ok (.sipush 240, 3) := dk_17 0 240 (dk_at dksX1_read_4 9 rfl rfl)
theorem dX1_read_105 : decode cX1_read 105 = .ok (.if_icmp .lt 15, 3) := dk_161 0 15 (dk_at dksX1_read_4 12 rfl rfl)
theorem dX1_read_108 : decode cX1_read 108 = .ok (.iload 5, 2) := dk_21 5 (dk_at dksX1_read_4 15 rfl rfl)
theorem dX1_read_110 : decode cX1_read 110 = .ok (.sipush 245, 3) := dk_17 0 245 (dk_at dksX1_read_4 17 rfl rfl)
theorem dX1_read_113 : decode cX1_read 113 = .ok (.if_icmp .ge 7, 3) := dk_162 0 7 (dk_at dksX1_read_4 20 rfl rfl)
theorem dX1_read_116 : decode cX1_read 116 = .ok (.iconst 3, 1) := dk_6 (dk_at dksX1_read_4 23 rfl rfl)
theorem dX1_read_117 : decode cX1_read 117 = .ok (.goto 4, 3) := dk_167 0 4 (dk_at dksX1_read_5 0 rfl rfl)
theorem dX1_read_120 : decode cX1_read 120 = .ok (.iconst (-1), 1) := dk_2 (dk_at dksX1_read_5 3 rfl rfl)
theorem dX1_read_121 : decode cX1_read 121 = .ok (.istore 6, 2) := dk_54 6 (dk_at dksX1_read_5 4 rfl rfl)
theorem dX1_read_123 : decode cX1_read 123 = .ok (.iload 6, 2) := dk_21 6 (dk_at dksX1_read_5 6 rfl rfl)
theorem dX1_read_125 : decode cX1_read 125 = .ok (.ifCond .lt 12, 3) := dk_155 0 12 (dk_at dksX1_read_5 8 rfl rfl)
theorem dX1_read_128 : decode cX1_read 128 = .ok (.iload_n 3, 1) := dk_29 (dk_at dksX1_read_5 11 rfl rfl)
theorem dX1_read_129 : decode cX1_read 129 = .ok (.iload 6, 2) := dk_21 6 (dk_at dksX1_read_5 12 rfl rfl)
theorem dX1_read_131 : decode cX1_read 131 = .ok (.iadd, 1) := dk_96 (dk_at dksX1_read_5 14 rfl rfl)
theorem dX1_read_132 : decode cX1_read 132 = .ok (.iload 4, 2) := dk_21 4 (dk_at dksX1_read_5 15 rfl rfl)
theorem dX1_read_134 : decode cX1_read 134 = .ok (.if_icmp .lt 10, 3) := dk_161 0 10 (dk_at dksX1_read_5 17 rfl rfl)
theorem dX1_read_137 : decode cX1_read 137 = .ok (.aload_n 0, 1) := dk_42 (dk_at dksX1_read_5 20 rfl rfl)
theorem dX1_read_138 : decode cX1_read 138 = .ok (.iconst (-1), 1) := dk_2 (dk_at dksX1_read_5 21 rfl rfl)
theorem dX1_read_139 : decode cX1_read 139 = .ok (.putfield 27, 3) := dk_181 0 27 (dk_at dksX1_read_6 0 rfl rfl)
theorem dX1_read_142 : decode cX1_read 142 = .ok (.iconst (-1), 1) := dk_2 (dk_at dksX1_read_6 3 rfl rfl)
theorem dX1_read_143 : decode cX1_read 143 = .ok (.ireturn, 1) := dk_172 (dk_at dksX1_read_6 4 rfl rfl)
theorem dX1_read_144 : decode cX1_read 144 = .ok (.iload 6, 2) := dk_21 6 (dk_at dksX1_read_6 5 rfl rfl)
theorem dX1_read_146 : decode cX1_read 146 = .ok (.ifCond .ne 8, 3) := dk_154 0 8 (dk_at dksX1_read_6 7 rfl rfl)
theorem dX1_read_149 : decode cX1_read 149 = .ok (.iload 5, 2) := dk_21 5 (dk_at dksX1_read_6 10 rfl rfl)
theorem dX1_read_151 : decode cX1_read 151 = .ok (.goto 39, 3) := dk_167 0 39 (dk_at dksX1_read_6 12 rfl rfl)
theorem dX1_read_154 : decode cX1_read 154 = .ok (.iload 6, 2) := dk_21 6 (dk_at dksX1_read_6 15 rfl rfl)
theorem dX1_read_156 : decode cX1_read 156 = .ok (.iconst 1, 1) := dk_4 (dk_at dksX1_read_6 17 rfl rfl)
theorem dX1_read_157 : decode cX1_read 157 = .ok (.if_icmp .ne 12, 3) := dk_160 0 12 (dk_at dksX1_read_6 18 rfl rfl)
theorem dX1_read_160 : decode cX1_read 160 = .ok (.iload 5, 2) := dk_21 5 (dk_at dksX1_read_6 21 rfl rfl)
theorem dX1_read_162 : decode cX1_read 162 = .ok (.sipush 192, 3) := dk_17 0 192 (dk_at dksX1_read_7 0 rfl rfl)
theorem dX1_read_165 : decode cX1_read 165 = .ok (.isub, 1) := dk_100 (dk_at dksX1_read_7 3 rfl rfl)
theorem dX1_read_166 : decode cX1_read 166 = .ok (.goto 24, 3) := dk_167 0 24 (dk_at dksX1_read_7 4 rfl rfl)
theorem dX1_read_169 : decode cX1_read 169 = .ok (.iload 6, 2) := dk_21 6 (dk_at dksX1_read_7 7 rfl rfl)
theorem dX1_read_171 : decode cX1_read 171 = .ok (.iconst 2, 1) := dk_5 (dk_at dksX1_read_7 9 rfl rfl)
theorem dX1_read_172 : decode cX1_read 172 = .ok (.if_icmp .ne 12, 3) := dk_160 0 12 (dk_at dksX1_read_7 10 rfl rfl)
theorem dX1_read_175 : decode cX1_read 175 = .ok (.iload 5, 2) := dk_21 5 (dk_at dksX1_read_7 13 rfl rfl)
theorem dX1_read_177 : decode cX1_read 177 = .ok (.sipush 224, 3) := dk_17 0 224 (dk_at dksX1_read_7 15 rfl rfl)
theorem dX1_read_180 : decode cX1_read 180 = .ok (.isub, 1) := dk_100 (dk_at dksX1_read_7 18 rfl rfl)
theorem dX1_read_181 : decode cX1_read 181 = .ok (.goto 9, 3) := dk_167 0 9 (dk_at dksX1_read_7 19 rfl rfl)
theorem dX1_read_184 : decode cX1_read 184 = .ok (.iload 5, 2) := dk_21 5 (dk_at dksX1_read_7 22 rfl rfl)
theorem dX1_read_186 : decode cX1_read 186 = .ok (.sipush 240, 3) := dk_17 0 240 (dk_at dksX1_read_8 0 rfl rfl)
theorem dX1_read_189 : decode cX1_read 189 = .ok (.isub, 1) := dk_100 (dk_at dksX1_read_8 3 rfl rfl)
theorem dX1_read_190 : decode cX1_read 190 = .ok (.istore 7, 2) := dk_54 7 (dk_at dksX1_read_8 4 rfl rfl)
theorem dX1_read_192 : decode cX1_read 192 = .ok (.iconst 1, 1) := dk_4 (dk_at dksX1_read_8 6 rfl rfl)
theorem dX1_read_193 : decode cX1_read 193 = .ok (.istore 8, 2) := dk_54 8 (dk_at dksX1_read_8 7 rfl rfl)
theorem dX1_read_195 : decode cX1_read 195 = .ok (.iload 8, 2) := dk_21 8 (dk_at dksX1_read_8 9 rfl rfl)
theorem dX1_read_197 : decode cX1_read 197 = .ok (.iload 6, 2) := dk_21 6 (dk_at dksX1_read_8 11 rfl rfl)
theorem dX1_read_199 : decode cX1_read 199 = .ok (.if_icmp .gt 57, 3) := dk_163 0 57 (dk_at dksX1_read_8 13 rfl rfl)
theorem dX1_read_202 : decode cX1_read 202 = .ok (.aload_n 0, 1) := dk_42 (dk_at dksX1_read_8 16 rfl rfl)
theorem dX1_read_203 : decode cX1_read 203 = .ok (.getfield 7, 3) := dk_180 0 7 (dk_at dksX1_read_8 17 rfl rfl)
theorem dX1_read_206 : decode cX1_read 206 = .ok (.iload_n 3, 1) := dk_29 (dk_at dksX1_read_8 20 rfl rfl)
theorem dX1_read_207 : decode cX1_read 207 = .ok (.iload 8, 2) := dk_21 8 (dk_at dksX1_read_8 21 rfl rfl)
theorem dX1_read_209 : decode cX1_read 209 = .ok (.iadd, 1) := dk_96 (dk_at dksX1_read_8 23 rfl rfl)
theorem dX1_read_210 : decode cX1_read 210 = .ok (.iaload, 1) := dk_46 (dk_at dksX1_read_9 0 rfl rfl)
theorem dX1_read_211 : decode cX1_read 211 = .ok (.istore 9, 2) := dk_54 9 (dk_at dksX1_read_9 1 rfl rfl)
theorem dX1_read_213 : decode cX1_read 213 = .ok (.iload 9, 2) := dk_21 9 (dk_at dksX1_read_9 3 rfl rfl)
theorem dX1_read_215 : decode cX1_read 215 = .ok (.sipush 128, 3) := dk_17 0 128 (dk_at dksX1_read_9 5 rfl rfl)
theorem dX1_read_218 : decode cX1_read 218 = .ok (.if_icmp .lt 11, 3) := dk_161 0 11 (dk_at dksX1_read_9 8 rfl rfl)
theorem dX1_read_221 : decode cX1_read 221 = .ok (.iload 9, 2) := dk_21 9 (dk_at dksX1_read_9 11 rfl rfl)
theorem dX1_read_223 : decode cX1_read 223 = .ok (.sipush 191, 3) := dk_17 0 191 (dk_at dksX1_read_9 13 rfl rfl)
theorem dX1_read_226 : decode cX1_read 226 = .ok (.if_icmp .le 10, 3) := dk_164 0 10 (dk_at dksX1_read_9 16 rfl rfl)
theorem dX1_read_229 : decode cX1_read 229 = .ok (.aload_n 0, 1) := dk_42 (dk_at dksX1_read_9 19 rfl rfl)
theorem dX1_read_230 : decode cX1_read 230 = .ok (.iconst (-1), 1) := dk_2 (dk_at dksX1_read_9 20 rfl rfl)
theorem dX1_read_231 : decode cX1_read 231 = .ok (.putfield 27, 3) := dk_181 0 27 (dk_at dksX1_read_9 21 rfl rfl)
theorem dX1_read_234 : decode cX1_read 234 = .ok (.iconst (-1), 1) := dk_2 (dk_at dksX1_read_10 0 rfl rfl)
theorem dX1_read_235 : decode cX1_read 235 = .ok (.ireturn, 1) := dk_172 (dk_at dksX1_read_10 1 rfl rfl)
theorem dX1_read_236 : decode cX1_read 236 = .ok (.iload 7, 2) := dk_21 7 (dk_at dksX1_read_10 2 rfl rfl)
theorem dX1_read_238 : decode cX1_read 238 = .ok (.bipush 64, 2) := dk_16 64 (dk_at dksX1_read_10 4 rfl rfl)
theorem dX1_read_240 : decode cX1_read 240 = .ok (.imul, 1) := dk_104 (dk_at dksX1_read_10 6 rfl rfl)
theorem dX1_read_241 : decode cX1_read 241 = .ok (.iload 9, 2) := dk_21 9 (dk_at dksX1_read_10 7 rfl rfl)
theorem dX1_read_243 : decode cX1_read 243 = .ok (.iadd, 1) := dk_96 (dk_at dksX1_read_10 9 rfl rfl)
theorem dX1_read_244 : decode cX1_read 244 = .ok (.sipush 128, 3) := dk_17 0 128 (dk_at dksX1_read_10 10 rfl rfl)
theorem dX1_read_247 : decode cX1_read 247 = .ok (.isub, 1) := dk_100 (dk_at dksX1_read_10 13 rfl rfl)
theorem dX1_read_248 : decode cX1_read 248 = .ok (.istore 7, 2) := dk_54 7 (dk_at dksX1_read_10 14 rfl rfl)
theorem dX1_read_250 : decode cX1_read 250 = .ok (.iinc 8 1, 3) := dk_132 8 1 (dk_at dksX1_read_10 16 rfl rfl)
theorem dX1_read_253 : decode cX1_read 253 = .ok (.goto (-58), 3) := dk_167 255 198 (dk_at dksX1_read_10 19 rfl rfl)
theorem dX1_read_256 : decode cX1_read 256 = .ok (.iload 6, 2) := dk_21 6 (dk_at dksX1_read_10 22 rfl rfl)
theorem dX1_read_258 : decode cX1_read 258 = .ok (.iconst 2, 1) := dk_5 (dk_at dksX1_read_11 0 rfl rfl)
theorem dX1_read_259 : decode cX1_read 259 = .ok (.if_icmp .ne 25, 3) := dk_160 0 25 (dk_at dksX1_read_11 1 rfl rfl)
theorem dX1_read_262 : decode cX1_read 262 = .ok (.iload 7, 2) := dk_21 7 (dk_at dksX1_read_11 4 rfl rfl)
theorem dX1_read_264 : decode cX1_read 264 = .ok (.sipush 2048, 3) := dk_17 8 0 (dk_at dksX1_read_11 6 rfl rfl)
theorem dX1_read_267 : decode cX1_read 267 = .ok (.if_icmp .lt 37, 3) := dk_161 0 37 (dk_at dksX1_read_11 9 rfl rfl)
theorem dX1_read_270 : decode cX1_read 270 = .ok (.iload 7, 2) := dk_21 7 (dk_at dksX1_read_11 12 rfl rfl)
theorem dX1_read_272 : decode cX1_read 272 = .ok (.ldc 30, 2) := dk_18 30 (dk_at dksX1_read_11 14 rfl rfl)
theorem dX1_read_274 : decode cX1_read 274 = .ok (.if_icmp .lt 10, 3) := dk_161 0 10 (dk_at dksX1_read_11 16 rfl rfl)
theorem dX1_read_277 : decode cX1_read 277 = .ok (.iload 7, 2) := dk_21 7 (dk_at dksX1_read_11 19 rfl rfl)
theorem dX1_read_279 : decode cX1_read 279 = .ok (.ldc 31, 2) := dk_18 31 (dk_at dksX1_read_11 21 rfl rfl)
theorem dX1_read_281 : decode cX1_read 281 = .ok (.if_icmp .lt 23, 3) := dk_161 0 23 (dk_at dksX1_read_12 0 rfl rfl)
theorem dX1_read_284 : decode cX1_read 284 = .ok (.iload 6, 2) := dk_21 6 (dk_at dksX1_read_12 3 rfl rfl)
theorem dX1_read_286 : decode cX1_read 286 = .ok (.iconst 3, 1) := dk_6 (dk_at dksX1_read_12 5 rfl rfl)
theorem dX1_read_287 : decode cX1_read 287 = .ok (.if_icmp .ne 24, 3) := dk_160 0 24 (dk_at dksX1_read_12 6 rfl rfl)
theorem dX1_read_290 : decode cX1_read 290 = .ok (.iload 7, 2) := dk_21 7 (dk_at dksX1_read_12 9 rfl rfl)
theorem dX1_read_292 : decode cX1_read 292 = .ok (.ldc 21, 2) := dk_18 21 (dk_at dksX1_read_12 11 rfl rfl)
theorem dX1_read_294 : decode cX1_read 294 = .ok (.if_icmp .lt 10, 3) := dk_161 0 10 (dk_at dksX1_read_12 13 rfl rfl)
theorem dX1_read_297 : decode cX1_read 297 = .ok (.iload 7, 2) := dk_21 7 (dk_at dksX1_read_12 16 rfl rfl)
theorem dX1_read_299 : decode cX1_read 299 = .ok (.ldc 32, 2) := dk_18 32 (dk_at dksX1_read_12 18 rfl rfl)
theorem dX1_read_301 : decode cX1_read 301 = .ok (.if_icmp .le 10, 3) := dk_164 0 10 (dk_at dksX1_read_12 20 rfl rfl)
theorem dX1_read_304 : decode cX1_read 304 = .ok (.aload_n 0, 1) := dk_42 (dk_at dksX1_read_12 23 rfl rfl)
theorem dX1_read_305 : decode cX1_read 305 = .ok (.iconst (-1), 1) := dk_2 (dk_at dksX1_read_13 0 rfl rfl)
theorem dX1_read_306 : decode cX1_read 306 = .ok (.putfield 27, 3) := dk_181 0 27 (dk_at dksX1_read_13 1 rfl rfl)
theorem dX1_read_309 : decode cX1_read 309 = .ok (.iconst (-1), 1) := dk_2 (dk_at dksX1_read_13 4 rfl rfl)
theorem dX1_read_310 : decode cX1_read 310 = .ok (.ireturn, 1) := dk_172 (dk_at dksX1_read_13 5 rfl rfl)
theorem dX1_read_311 : decode cX1_read 311 = .ok (.iload 6, 2) := dk_21 6 (dk_at dksX1_read_13 6 rfl rfl)
theorem dX1_read_313 : decode cX1_read 313 = .ok (.iconst 3, 1) := dk_6 (dk_at dksX1_read_13 8 rfl rfl)
theorem dX1_read_314 : decode cX1_read 314 = .ok (.if_icmp .ne 59, 3) := dk_160 0 59 (dk_at dksX1_read_13 9 rfl rfl)
theorem dX1_read_317 : decode cX1_read 317 = .ok (.aload_n 0, 1) := dk_42 (dk_at dksX1_read_13 12 rfl rfl)
theorem dX1_read_318 : decode cX1_read 318 = .ok (.getfield 13, 3) := dk_180 0 13 (dk_at dksX1_read_13 13 rfl rfl)
theorem dX1_read_321 : decode cX1_read 321 = .ok (.aload_n 0, 1) := dk_42 (dk_at dksX1_read_13 16 rfl rfl)
theorem dX1_read_322 : decode cX1_read 322 = .ok (.getfield 27, 3) := dk_180 0 27 (dk_at dksX1_read_13 17 rfl rfl)
theorem dX1_read_325 : decode cX1_read 325 = .ok (.ldc 30, 2) := dk_18 30 (dk_at dksX1_read_13 20 rfl rfl)
theorem dX1_read_327 : decode cX1_read 327 = .ok (.iload 7, 2) := dk_21 7 (dk_at dksX1_read_13 22 rfl rfl)
theorem dX1_read_329 : decode cX1_read 329 = .ok (.ldc 21, 2) := dk_18 21 (dk_at dksX1_read_14 0 rfl rfl)
theorem dX1_read_331 : decode cX1_read 331 = .ok (.isub, 1) := dk_100 (dk_at dksX1_read_14 2 rfl rfl)
theorem dX1_read_332 : decode cX1_read 332 = .ok (.bipush 10, 2) := dk_16 10 (dk_at dksX1_read_14 3 rfl rfl)
theorem dX1_read_334 : decode cX1_read 334 = .ok (.ishr, 1) := dk_122 (dk_at dksX1_read_14 5 rfl rfl)
theorem dX1_read_335 : decode cX1_read 335 = .ok (.iadd, 1) := dk_96 (dk_at dksX1_read_14 6 rfl rfl)
theorem dX1_read_336 : decode cX1_read 336 = .ok (.iastore, 1) := dk_79 (dk_at dksX1_read_14 7 rfl rfl)
theorem dX1_read_337 : decode cX1_read 337 = .ok (.aload_n 0, 1) := dk_42 (dk_at dksX1_read_14 8 rfl rfl)
theorem dX1_read_338 : decode cX1_read 338 = .ok (.getfield 13, 3) := dk_180 0 13 (dk_at dksX1_read_14 9 rfl rfl)
theorem dX1_read_341 : decode cX1_read 341 = .ok (.aload_n 0, 1) := dk_42 (dk_at dksX1_read_14 12 rfl rfl)
theorem dX1_read_342 : decode cX1_read 342 = .ok (.getfield 27, 3) := dk_180 0 27 (dk_at dksX1_read_14 13 rfl rfl)
theorem dX1_read_345 : decode cX1_read 345 = .ok (.iconst 1, 1) := dk_4 (dk_at dksX1_read_14 16 rfl rfl)
theorem dX1_read_346 : decode cX1_read 346 = .ok (.iadd, 1) := dk_96 (dk_at dksX1_read_14 17 rfl rfl)
theorem dX1_read_347 : decode cX1_read 347 = .ok (.ldc 33, 2) := dk_18 33 (dk_at dksX1_read_14 18 rfl rfl)
theorem dX1_read_349 : decode cX1_read 349 = .ok (.iload 7, 2) := dk_21 7 (dk_at dksX1_read_14 20 rfl rfl)
theorem dX1_read_351 : decode cX1_read 351 = .ok (.ldc 21, 2) := dk_18 21 (dk_at dksX1_read_14 22 rfl rfl)
theorem dX1_read_353 : decode cX1_read 353 = .ok (.isub, 1) := dk_100 (dk_at dksX1_read_15 0 rfl rfl)
theorem dX1_read_354 : decode cX1_read 354 = .ok (.sipush 1023, 3) := dk_17 3 255 (dk_at dksX1_read_15 1 rfl rfl)
theorem dX1_read_357 : decode cX1_read 357 = .ok (.iand, 1) := dk_126 (dk_at dksX1_read_15 4 rfl rfl)
theorem dX1_read_358 : decode cX1_read 358 = .ok (.iadd, 1) := dk_96 (dk_at dksX1_read_15 5 rfl rfl)
theorem dX1_read_359 : decode cX1_read 359 = .ok (.iastore, 1) := dk_79 (dk_at dksX1_read_15 6 rfl rfl)
theorem dX1_read_360 : decode cX1_read 360 = .ok (.aload_n 0, 1) := dk_42 (dk_at dksX1_read_15 7 rfl rfl)
theorem dX1_read_361 : decode cX1_read 361 = .ok (.aload_n 0, 1) := dk_42 (dk_at dksX1_read_15 8 rfl rfl)
theorem dX1_read_362 : decode cX1_read 362 = .ok (.getfield 27, 3) := dk_180 0 27 (dk_at dksX1_read_15 9 rfl rfl)
theorem dX1_read_365 : decode cX1_read 365 = .ok (.iconst 2, 1) := dk_5 (dk_at dksX1_read_15 12 rfl rfl)
theorem dX1_read_366 : decode cX1_read 366 = .ok (.iadd, 1) := dk_96 (dk_at dksX1_read_15 13 rfl rfl)
theorem dX1_read_367 : decode cX1_read 367 = .ok (.putfield 27, 3) := dk_181 0 27 (dk_at dksX1_read_15 14 rfl rfl)
theorem dX1_read_370 : decode cX1_read 370 = .ok (.goto 24, 3) := dk_167 0 24 (dk_at dksX1_read_15 17 rfl rfl)
theorem dX1_read_373 : decode cX1_read 373 = .ok (.aload_n 0, 1) := dk_42 (dk_at dksX1_read_15 20 rfl rfl)
theorem dX1_read_374 : decode cX1_read 374 = .ok (.getfield 13, 3) := dk_180 0 13 (dk_at dksX1_read_15 21 rfl rfl)
theorem dX1_read_377 : decode cX1_read 377 = .ok (.aload_n 0, 1) := dk_42 (dk_at dksX1_read_16 0 rfl rfl)
theorem dX1_read_378 : decode cX1_read 378 = .ok (.getfield 27, 3) := dk_180 0 27 (dk_at dksX1_read_16 1 rfl rfl)
theorem dX1_read_381 : decode cX1_read 381 = .ok (.iload 7, 2) := dk_21 7 (dk_at dksX1_read_16 4 rfl rfl)
theorem dX1_read_383 : decode cX1_read 383 = .ok (.iastore, 1) := dk_79 (dk_at dksX1_read_16 6 rfl rfl)
theorem dX1_read_384 : decode cX1_read 384 = .ok (.aload_n 0, 1) := dk_42 (dk_at dksX1_read_16 7 rfl rfl)
theorem dX1_read_385 : decode cX1_read 385 = .ok (.aload_n 0, 1) := dk_42 (dk_at dksX1_read_16 8 rfl rfl)
theorem dX1_read_386 : decode cX1_read 386 = .ok (.getfield 27, 3) := dk_180 0 27 (dk_at dksX1_read_16 9 rfl rfl)
theorem dX1_read_389 : decode cX1_read 389 = .ok (.iconst 1, 1) := dk_4 (dk_at dksX1_read_16 12 rfl rfl)
theorem dX1_read_390 : decode cX1_read 390 = .ok (.iadd, 1) := dk_96 (dk_at dksX1_read_16 13 rfl rfl)
theorem dX1_read_391 : decode cX1_read 391 = .ok (.putfield 27, 3) := dk_181 0 27 (dk_at dksX1_read_16 14 rfl rfl)
theorem dX1_read_394 : decode cX1_read 394 = .ok (.iload_n 3, 1) := dk_29 (dk_at dksX1_read_16 17 rfl rfl)
theorem dX1_read_395 : decode cX1_read 395 = .ok (.iload 6, 2) := dk_21 6 (dk_at dksX1_read_16 18 rfl rfl)
theorem dX1_read_397 : decode cX1_read 397 = .ok (.iadd, 1) := dk_96 (dk_at dksX1_read_16 20 rfl rfl)
theorem dX1_read_398 : decode cX1_read 398 = .ok (.iconst 1, 1) := dk_4 (dk_at dksX1_read_16 21 rfl rfl)
theorem dX1_read_399 : decode cX1_read 399 = .ok (.iadd, 1) := dk_96 (dk_at dksX1_read_16 22 rfl rfl)
theorem dX1_read_400 : decode cX1_read 400 = .ok (.istore_n 3, 1) := dk_62 (dk_at dksX1_read_16 23 rfl rfl)
theorem dX1_read_401 : decode cX1_read 401 = .ok (.goto (-367), 3) := dk_167 254 145 (dk_at dksX1_read_17 0 rfl rfl)
theorem dX1_read_404 : decode cX1_read 404 = .ok (.aload_n 0, 1) := dk_42 (dk_at dksX1_read_17 3 rfl rfl)
theorem dX1_read_405 : decode cX1_read 405 = .ok (.getfield 27, 3) := dk_180 0 27 (dk_at dksX1_read_17 4 rfl rfl)
theorem dX1_read_408 : decode cX1_read 408 = .ok (.ireturn, 1) := dk_172 (dk_at dksX1_read_17 7 rfl rfl)
abbrev cX1_letter : ByteArray := prog_4_method_8_code
def yX1_letter : MethodName := ⟨RX1, "letter", "(I)I"⟩
def dkwX1_letter_1 : List UInt8 := [46, 172]
abbrev dktX1_letter_1 : List UInt8 := dkwX1_letter_1 ++ []
def dkwX1_letter_0 : List UInt8 := [42, 180, 0, 27, 157, 0, 7, 2, 167, 0, 17, 42, 180, 0, 13, 27, 18, 26, 126, 42, 180, 0, 27, 112]
abbrev dktX1_letter_0 : List UInt8 := dkwX1_letter_0 ++ dktX1_letter_1
theorem dksX1_letter_0 : cX1_letter.data.toList.drop 0 = dktX1_letter_0 := by decide +kernel
theorem dksX1_letter_1 : cX1_letter.data.toList.drop 24 = dktX1_letter_1 := dk_seg dksX1_letter_0 24 rfl rfl
theorem dX1_letter_0 : decode cX1_letter 0 = .ok (.aload_n 0, 1) := dk_42 (dk_at dksX1_letter_0 0 rfl rfl)
theorem dX1_letter_1 : decode cX1_letter 1 = .ok (.getfield 27, 3) := dk_180 0 27 (dk_at dksX1_letter_0 1 rfl rfl)
theorem dX1_letter_4 : decode cX1_letter 4 = .ok (.ifCond .gt 7, 3) := dk_157 0 7 (dk_at dksX1_letter_0 4 rfl rfl)
theorem dX1_letter_7 : decode cX1_letter 7 = .ok (.iconst (-1), 1) := dk_2 (dk_at dksX1_letter_0 7 rfl rfl)
theorem dX1_letter_8 : decode cX1_letter 8 = .ok (.goto 17, 3) := dk_167 0 17 (dk_at dksX1_letter_0 8 rfl rfl)
theorem dX1_letter_11 : decode cX1_letter 11 = .ok (.aload_n 0, 1) := dk_42 (dk_at dksX1_letter_0 11 rfl rfl)
theorem dX1_letter_12 : decode cX1_letter 12 = .ok (.getfield 13, 3) := dk_180 0 13 (dk_at dksX1_letter_0 12 rfl rfl)
theorem dX1_letter_15 : decode cX1_letter 15 = .ok (.iload_n 1, 1) := dk_27 (dk_at dksX1_letter_0 15 rfl rfl)
theorem dX1_letter_16 : decode cX1_letter 16 = .ok (.ldc 26, 2) := dk_18 26 (dk_at dksX1_letter_0 16 rfl rfl)
theorem dX1_letter_18 : decode cX1_letter 18 = .ok (.iand, 1) := dk_126 (dk_at dksX1_letter_0 18 rfl rfl)
theorem dX1_letter_19 : decode cX1_letter 19 = .ok (.aload_n 0, 1) := dk_42 (dk_at dksX1_letter_0 19 rfl rfl)
theorem dX1_letter_20 : decode cX1_letter 20 = .ok (.getfield 27, 3) := dk_180 0 27 (dk_at dksX1_letter_0 20 rfl rfl)
theorem dX1_letter_23 : decode cX1_letter 23 = .ok (.irem, 1) := dk_112 (dk_at dksX1_letter_0 23 rfl rfl)
theorem dX1_letter_24 : decode cX1_letter 24 = .ok (.iaload, 1) := dk_46 (dk_at dksX1_letter_1 0 rfl rfl)
theorem dX1_letter_25 : decode cX1_letter 25 = .ok (.ireturn, 1) := dk_172 (dk_at dksX1_letter_1 1 rfl rfl)
theorem q3 : (Jvm.Cond.initialized "WireLettersModel") ∈ lw_all := lw_g (lw_at lw_m0 2 rfl) rfl
theorem q66 : (Jvm.Cond.instantiable "WireLettersModel" (4 : Nat)) ∈ lw_all := lw_g (lw_at lw_m0 65 rfl) rfl
theorem q68 : (Jvm.Cond.instanceMethod ({ cls := "WireLettersModel", name := "<init>", desc := "()V" } : Jvm.MethodName)) ∈ lw_all := lw_g (lw_at lw_m0 67 rfl) rfl
theorem q69 : (Jvm.Cond.code ({ cls := "WireLettersModel", name := "<init>", desc := "()V" } : Jvm.MethodName) prog_4_method_1_code (1 : Nat) (Option.none : Option Jvm.ClassFile.FieldType)) ∈ lw_all := lw_g (lw_at lw_m0 68 rfl) rfl
theorem q70 : (Jvm.Cond.methodLink "WireLettersModel" (1 : Nat) ({ cls := "java/lang/Object", name := "<init>", desc := "()V" } : Jvm.MethodName)) ∈ lw_all := lw_g (lw_at lw_m0 69 rfl) rfl
theorem q71 : (Jvm.Cond.fieldLink "WireLettersModel" (7 : Nat) "WireLettersModel" "text" "[I") ∈ lw_all := lw_g (lw_at lw_m0 70 rfl) rfl
theorem q72 : (Jvm.Cond.fieldLink "WireLettersModel" (13 : Nat) "WireLettersModel" "letters" "[I") ∈ lw_all := lw_g (lw_at lw_m0 71 rfl) rfl
theorem q73 : (Jvm.Cond.fieldLink "WireLettersModel" (16 : Nat) "WireLettersModel" "size" "I") ∈ lw_all := lw_g (lw_at lw_m0 72 rfl) rfl
theorem q74 : (Jvm.Cond.fieldLink "WireLettersModel" (27 : Nat) "WireLettersModel" "read" "I") ∈ lw_all := lw_g (lw_at lw_m0 73 rfl) rfl
theorem q75 : (Jvm.Cond.laysFinal "WireLettersModel" "WireLettersModel" "text" "[I") ∈ lw_all := lw_g (lw_at lw_m0 74 rfl) rfl
theorem q76 : (Jvm.Cond.soleField "WireLettersModel" "text") ∈ lw_all := lw_g (lw_at lw_m0 75 rfl) rfl
theorem q77 : (Jvm.Cond.laysFinal "WireLettersModel" "WireLettersModel" "letters" "[I") ∈ lw_all := lw_g (lw_at lw_m0 76 rfl) rfl
theorem q78 : (Jvm.Cond.soleField "WireLettersModel" "letters") ∈ lw_all := lw_g (lw_at lw_m0 77 rfl) rfl
theorem q79 : (Jvm.Cond.lays "WireLettersModel" "WireLettersModel" "size" "I") ∈ lw_all := lw_g (lw_at lw_m0 78 rfl) rfl
theorem q80 : (Jvm.Cond.soleField "WireLettersModel" "size") ∈ lw_all := lw_g (lw_at lw_m0 79 rfl) rfl
theorem q81 : (Jvm.Cond.lays "WireLettersModel" "WireLettersModel" "read" "I") ∈ lw_all := lw_g (lw_at lw_m0 80 rfl) rfl
theorem q82 : (Jvm.Cond.soleField "WireLettersModel" "read") ∈ lw_all := lw_g (lw_at lw_m0 81 rfl) rfl
theorem q83 : (Jvm.Cond.superclass "WireLettersModel" "java/lang/Object") ∈ lw_all := lw_g (lw_at lw_m0 82 rfl) rfl
theorem q86 : (Jvm.Cond.instanceMethod ({ cls := "WireLettersModel", name := "lay", desc := "(I)I" } : Jvm.MethodName)) ∈ lw_all := lw_g (lw_at lw_m0 85 rfl) rfl
theorem q87 : (Jvm.Cond.selects "WireLettersModel" ({ cls := "WireLettersModel", name := "lay", desc := "(I)I" } : Jvm.MethodName) ({ cls := "WireLettersModel", name := "lay", desc := "(I)I" } : Jvm.MethodName)) ∈ lw_all := lw_g (lw_at lw_m0 86 rfl) rfl
theorem q88 : (Jvm.Cond.code ({ cls := "WireLettersModel", name := "lay", desc := "(I)I" } : Jvm.MethodName) prog_4_method_3_code (5 : Nat) (Option.some Jvm.ClassFile.FieldType.int)) ∈ lw_all := lw_g (lw_at lw_m0 87 rfl) rfl
theorem q89 : (Jvm.Cond.constant "WireLettersModel" (20 : Nat) (2097151 : Int32)) ∈ lw_all := lw_g (lw_at lw_m0 88 rfl) rfl
theorem q90 : (Jvm.Cond.constant "WireLettersModel" (21 : Nat) (65536 : Int32)) ∈ lw_all := lw_g (lw_at lw_m0 89 rfl) rfl
theorem q91 : (Jvm.Cond.methodLink "WireLettersModel" (22 : Nat) ({ cls := "WireLettersModel", name := "push", desc := "(I)V" } : Jvm.MethodName)) ∈ lw_all := lw_g (lw_at lw_m0 90 rfl) rfl
theorem q92 : (Jvm.Cond.privateMethod ({ cls := "WireLettersModel", name := "push", desc := "(I)V" } : Jvm.MethodName)) ∈ lw_tbl := lw_at lw_m0 91 rfl
theorem q93 : (Jvm.Cond.instanceMethod ({ cls := "WireLettersModel", name := "push", desc := "(I)V" } : Jvm.MethodName)) ∈ lw_all := lw_g (lw_at lw_m0 92 rfl) rfl
theorem q94 : (Jvm.Cond.code ({ cls := "WireLettersModel", name := "push", desc := "(I)V" } : Jvm.MethodName) prog_4_method_2_code (2 : Nat) (Option.none : Option Jvm.ClassFile.FieldType)) ∈ lw_all := lw_g (lw_at lw_m0 93 rfl) rfl
theorem q96 : (Jvm.Cond.instanceMethod ({ cls := "WireLettersModel", name := "spoil", desc := "(II)V" } : Jvm.MethodName)) ∈ lw_all := lw_g (lw_at lw_m0 95 rfl) rfl
theorem q97 : (Jvm.Cond.selects "WireLettersModel" ({ cls := "WireLettersModel", name := "spoil", desc := "(II)V" } : Jvm.MethodName) ({ cls := "WireLettersModel", name := "spoil", desc := "(II)V" } : Jvm.MethodName)) ∈ lw_all := lw_g (lw_at lw_m0 96 rfl) rfl
theorem q98 : (Jvm.Cond.code ({ cls := "WireLettersModel", name := "spoil", desc := "(II)V" } : Jvm.MethodName) prog_4_method_4_code (3 : Nat) (Option.none : Option Jvm.ClassFile.FieldType)) ∈ lw_all := lw_g (lw_at lw_m0 97 rfl) rfl
theorem q99 : (Jvm.Cond.constant "WireLettersModel" (26 : Nat) (2147483647 : Int32)) ∈ lw_all := lw_g (lw_at lw_m0 98 rfl) rfl
theorem q101 : (Jvm.Cond.instanceMethod ({ cls := "WireLettersModel", name := "cut", desc := "(I)V" } : Jvm.MethodName)) ∈ lw_all := lw_g (lw_at lw_m0 100 rfl) rfl
theorem q102 : (Jvm.Cond.selects "WireLettersModel" ({ cls := "WireLettersModel", name := "cut", desc := "(I)V" } : Jvm.MethodName) ({ cls := "WireLettersModel", name := "cut", desc := "(I)V" } : Jvm.MethodName)) ∈ lw_all := lw_g (lw_at lw_m0 101 rfl) rfl
theorem q103 : (Jvm.Cond.code ({ cls := "WireLettersModel", name := "cut", desc := "(I)V" } : Jvm.MethodName) prog_4_method_5_code (2 : Nat) (Option.none : Option Jvm.ClassFile.FieldType)) ∈ lw_all := lw_g (lw_at lw_m0 102 rfl) rfl
theorem q105 : (Jvm.Cond.instanceMethod ({ cls := "WireLettersModel", name := "size", desc := "()I" } : Jvm.MethodName)) ∈ lw_all := lw_g (lw_at lw_m0 104 rfl) rfl
theorem q106 : (Jvm.Cond.selects "WireLettersModel" ({ cls := "WireLettersModel", name := "size", desc := "()I" } : Jvm.MethodName) ({ cls := "WireLettersModel", name := "size", desc := "()I" } : Jvm.MethodName)) ∈ lw_all := lw_g (lw_at lw_m0 105 rfl) rfl
theorem q107 : (Jvm.Cond.code ({ cls := "WireLettersModel", name := "size", desc := "()I" } : Jvm.MethodName) prog_4_method_6_code (1 : Nat) (Option.some Jvm.ClassFile.FieldType.int)) ∈ lw_all := lw_g (lw_at lw_m0 106 rfl) rfl
theorem q109 : (Jvm.Cond.instanceMethod ({ cls := "WireLettersModel", name := "read", desc := "(II)I" } : Jvm.MethodName)) ∈ lw_all := lw_g (lw_at lw_m0 108 rfl) rfl
theorem q110 : (Jvm.Cond.selects "WireLettersModel" ({ cls := "WireLettersModel", name := "read", desc := "(II)I" } : Jvm.MethodName) ({ cls := "WireLettersModel", name := "read", desc := "(II)I" } : Jvm.MethodName)) ∈ lw_all := lw_g (lw_at lw_m0 109 rfl) rfl
theorem q111 : (Jvm.Cond.code ({ cls := "WireLettersModel", name := "read", desc := "(II)I" } : Jvm.MethodName) prog_4_method_7_code (10 : Nat) (Option.some Jvm.ClassFile.FieldType.int)) ∈ lw_all := lw_g (lw_at lw_m0 110 rfl) rfl
theorem q112 : (Jvm.Cond.constant "WireLettersModel" (30 : Nat) (55296 : Int32)) ∈ lw_all := lw_g (lw_at lw_m0 111 rfl) rfl
theorem q113 : (Jvm.Cond.constant "WireLettersModel" (31 : Nat) (57344 : Int32)) ∈ lw_all := lw_g (lw_at lw_m0 112 rfl) rfl
theorem q114 : (Jvm.Cond.constant "WireLettersModel" (32 : Nat) (1114111 : Int32)) ∈ lw_all := lw_g (lw_at lw_m0 113 rfl) rfl
theorem q115 : (Jvm.Cond.constant "WireLettersModel" (33 : Nat) (56320 : Int32)) ∈ lw_all := lw_g (lw_at lw_m0 114 rfl) rfl
theorem q117 : (Jvm.Cond.instanceMethod ({ cls := "WireLettersModel", name := "letter", desc := "(I)I" } : Jvm.MethodName)) ∈ lw_all := lw_g (lw_at lw_m0 116 rfl) rfl
theorem q118 : (Jvm.Cond.selects "WireLettersModel" ({ cls := "WireLettersModel", name := "letter", desc := "(I)I" } : Jvm.MethodName) ({ cls := "WireLettersModel", name := "letter", desc := "(I)I" } : Jvm.MethodName)) ∈ lw_all := lw_g (lw_at lw_m0 117 rfl) rfl
theorem q119 : (Jvm.Cond.code ({ cls := "WireLettersModel", name := "letter", desc := "(I)I" } : Jvm.MethodName) prog_4_method_8_code (2 : Nat) (Option.some Jvm.ClassFile.FieldType.int)) ∈ lw_all := lw_g (lw_at lw_m0 118 rfl) rfl
theorem in_X1 : ∀ w ∈ wsX10, w ∈ lw_all := lw_in wsX10 [75, 77, 79, 81] (by decide +kernel) (by decide +kernel)

/-! UTF8 -/
set_option maxRecDepth 100000
def RX2 : String := "UTF8"
abbrev cX2_transcodeToUTF16 : ByteArray := prog_1_method_3_code
def yX2_transcodeToUTF16 : MethodName := ⟨RX2, "transcodeToUTF16", "([BII[C)I"⟩
def dkwX2_transcodeToUTF16_9 : List UInt8 := [85, 167, 255, 52, 21, 5, 172]
abbrev dktX2_transcodeToUTF16_9 : List UInt8 := dkwX2_transcodeToUTF16_9 ++ []
def dkwX2_transcodeToUTF16_8 : List UInt8 := [21, 9, 16, 10, 124, 96, 146, 85, 45, 21, 5, 132, 5, 1, 18, 19, 21, 9, 17, 3, 255, 126, 128, 146]
abbrev dktX2_transcodeToUTF16_8 : List UInt8 := dkwX2_transcodeToUTF16_8 ++ dktX2_transcodeToUTF16_9
def dkwX2_transcodeToUTF16_7 : List UInt8 := [146, 85, 167, 0, 47, 21, 5, 45, 190, 4, 100, 161, 0, 5, 2, 172, 45, 21, 5, 132, 5, 1, 18, 18]
abbrev dktX2_transcodeToUTF16_7 : List UInt8 := dkwX2_transcodeToUTF16_7 ++ dktX2_transcodeToUTF16_8
def dkwX2_transcodeToUTF16_6 : List UInt8 := [21, 9, 18, 17, 163, 0, 25, 21, 5, 45, 190, 161, 0, 5, 2, 172, 45, 21, 5, 132, 5, 1, 21, 9]
abbrev dktX2_transcodeToUTF16_6 : List UInt8 := dkwX2_transcodeToUTF16_6 ++ dktX2_transcodeToUTF16_7
def dkwX2_transcodeToUTF16_5 : List UInt8 := [21, 7, 17, 0, 255, 126, 7, 124, 96, 51, 54, 10, 167, 255, 203, 21, 10, 16, 254, 160, 0, 5, 2, 172]
abbrev dktX2_transcodeToUTF16_5 : List UInt8 := dkwX2_transcodeToUTF16_5 ++ dktX2_transcodeToUTF16_6
def dkwX2_transcodeToUTF16_4 : List UInt8 := [132, 4, 1, 51, 54, 7, 21, 9, 16, 6, 120, 21, 7, 16, 63, 126, 128, 54, 9, 178, 0, 13, 21, 10]
abbrev dktX2_transcodeToUTF16_4 : List UInt8 := dkwX2_transcodeToUTF16_4 ++ dktX2_transcodeToUTF16_5
def dkwX2_transcodeToUTF16_3 : List UInt8 := [54, 9, 21, 8, 145, 54, 10, 21, 10, 155, 0, 54, 21, 4, 21, 6, 161, 0, 5, 2, 172, 42, 21, 4]
abbrev dktX2_transcodeToUTF16_3 : List UInt8 := dkwX2_transcodeToUTF16_3 ++ dktX2_transcodeToUTF16_4
def dkwX2_transcodeToUTF16_2 : List UInt8 := [21, 7, 146, 85, 167, 255, 216, 178, 0, 7, 21, 7, 16, 127, 126, 53, 54, 8, 21, 8, 16, 8, 124]
abbrev dktX2_transcodeToUTF16_2 : List UInt8 := dkwX2_transcodeToUTF16_2 ++ dktX2_transcodeToUTF16_3
def dkwX2_transcodeToUTF16_1 : List UInt8 := [51, 54, 7, 21, 7, 155, 0, 25, 21, 5, 45, 190, 161, 0, 5, 2, 172, 45, 21, 5, 132, 5, 1]
abbrev dktX2_transcodeToUTF16_1 : List UInt8 := dkwX2_transcodeToUTF16_1 ++ dktX2_transcodeToUTF16_2
def dkwX2_transcodeToUTF16_0 : List UInt8 := [27, 54, 4, 3, 54, 5, 27, 28, 96, 54, 6, 21, 4, 21, 6, 162, 0, 203, 42, 21, 4, 132, 4, 1]
abbrev dktX2_transcodeToUTF16_0 : List UInt8 := dkwX2_transcodeToUTF16_0 ++ dktX2_transcodeToUTF16_1
theorem dksX2_transcodeToUTF16_0 : cX2_transcodeToUTF16.data.toList.drop 0 = dktX2_transcodeToUTF16_0 := by decide +kernel
theorem dksX2_transcodeToUTF16_1 : cX2_transcodeToUTF16.data.toList.drop 24 = dktX2_transcodeToUTF16_1 := dk_seg dksX2_transcodeToUTF16_0 24 rfl rfl
theorem dksX2_transcodeToUTF16_2 : cX2_transcodeToUTF16.data.toList.drop 47 = dktX2_transcodeToUTF16_2 := dk_seg dksX2_transcodeToUTF16_1 23 rfl rfl
theorem dksX2_transcodeToUTF16_3 : cX2_transcodeToUTF16.data.toList.drop 70 = dktX2_transcodeToUTF16_3 := dk_seg dksX2_transcodeToUTF16_2 23 rfl rfl
theorem dksX2_transcodeToUTF16_4 : cX2_transcodeToUTF16.data.toList.drop 94 = dktX2_transcodeToUTF16_4 := dk_seg dksX2_transcodeToUTF16_3 24 rfl rfl
theorem dksX2_transcodeToUTF16_5 : cX2_transcodeToUTF16.data.toList.drop 118 = dktX2_transcodeToUTF16_5 := dk_seg dksX2_transcodeToUTF16_4 24 rfl rfl
theorem dksX2_transcodeToUTF16_6 : cX2_transcodeToUTF16.data.toList.drop 142 = dktX2_transcodeToUTF16_6 := dk_seg dksX2_transcodeToUTF16_5 24 rfl rfl
theorem dksX2_transcodeToUTF16_7 : cX2_transcodeToUTF16.data.toList.drop 166 = dktX2_transcodeToUTF16_7 := dk_seg dksX2_transcodeToUTF16_6 24 rfl rfl
theorem dksX2_transcodeToUTF16_8 : cX2_transcodeToUTF16.data.toList.drop 190 = dktX2_transcodeToUTF16_8 := dk_seg dksX2_transcodeToUTF16_7 24 rfl rfl
theorem dksX2_transcodeToUTF16_9 : cX2_transcodeToUTF16.data.toList.drop 214 = dktX2_transcodeToUTF16_9 := dk_seg dksX2_transcodeToUTF16_8 24 rfl rfl
theorem dX2_transcodeToUTF16_0 : decode cX2_transcodeToUTF16 0 = .ok (.iload_n 1, 1) := dk_27 (dk_at dksX2_transcodeToUTF16_0 0 rfl rfl)
theorem dX2_transcodeToUTF16_1 : decode cX2_transcodeToUTF16 1 = .ok (.istore 4, 2) := dk_54 4 (dk_at dksX2_transcodeToUTF16_0 1 rfl rfl)
theorem dX2_transcodeToUTF16_3 : decode cX2_transcodeToUTF16 3 = .ok (.iconst 0, 1) := dk_3 (dk_at dksX2_transcodeToUTF16_0 3 rfl rfl)
theorem dX2_transcodeToUTF16_4 : decode cX2_transcodeToUTF16 4 = .ok (.istore 5, 2) := dk_54 5 (dk_at dksX2_transcodeToUTF16_0 4 rfl rfl)
theorem dX2_transcodeToUTF16_6 : decode cX2_transcodeToUTF16 6 = .ok (.iload_n 1, 1) := dk_27 (dk_at dksX2_transcodeToUTF16_0 6 rfl rfl)
theorem dX2_transcodeToUTF16_7 : decode cX2_transcodeToUTF16 7 = .ok (.iload_n 2, 1) := dk_28 (dk_at dksX2_transcodeToUTF16_0 7 rfl rfl)
theorem dX2_transcodeToUTF16_8 : decode cX2_transcodeToUTF16 8 = .ok (.iadd, 1) := dk_96 (dk_at dksX2_transcodeToUTF16_0 8 rfl rfl)
theorem dX2_transcodeToUTF16_9 : decode cX2_transcodeToUTF16 9 = .ok (.istore 6, 2) := dk_54 6 (dk_at dksX2_transcodeToUTF16_0 9 rfl rfl)
theorem dX2_transcodeToUTF16_11 : decode cX2_transcodeToUTF16 11 = .ok (.iload 4, 2) := dk_21 4 (dk_at dksX2_transcodeToUTF16_0 11 rfl rfl)
theorem dX2_transcodeToUTF16_13 : decode cX2_transcodeToUTF16 13 = .ok (.iload 6, 2) := dk_21 6 (dk_at dksX2_transcodeToUTF16_0 13 rfl rfl)
theorem dX2_transcodeToUTF16_15 : decode cX2_transcodeToUTF16 15 = .ok (.if_icmp .ge 203, 3) := dk_162 0 203 (dk_at dksX2_transcodeToUTF16_0 15 rfl rfl)
theorem dX2_transcodeToUTF16_18 : decode cX2_transcodeToUTF16 18 = .ok (.aload_n 0, 1) := dk_42 (dk_at dksX2_transcodeToUTF16_0 18 rfl rfl)
theorem dX2_transcodeToUTF16_19 : decode cX2_transcodeToUTF16 19 = .ok (.iload 4, 2) := dk_21 4 (dk_at dksX2_transcodeToUTF16_0 19 rfl rfl)
theorem dX2_transcodeToUTF16_21 : decode cX2_transcodeToUTF16 21 = .ok (.iinc 4 1, 3) := dk_132 4 1 (dk_at dksX2_transcodeToUTF16_0 21 rfl rfl)
theorem dX2_transcodeToUTF16_24 : decode cX2_transcodeToUTF16 24 = .ok (.baload, 1) := dk_51 (dk_at dksX2_transcodeToUTF16_1 0 rfl rfl)
theorem dX2_transcodeToUTF16_25 : decode cX2_transcodeToUTF16 25 = .ok (.istore 7, 2) := dk_54 7 (dk_at dksX2_transcodeToUTF16_1 1 rfl rfl)
theorem dX2_transcodeToUTF16_27 : decode cX2_transcodeToUTF16 27 = .ok (.iload 7, 2) := dk_21 7 (dk_at dksX2_transcodeToUTF16_1 3 rfl rfl)
theorem dX2_transcodeToUTF16_29 : decode cX2_transcodeToUTF16 29 = .ok (.ifCond .lt 25, 3) := dk_155 0 25 (dk_at dksX2_transcodeToUTF16_1 5 rfl rfl)
theorem dX2_transcodeToUTF16_32 : decode cX2_transcodeToUTF16 32 = .ok (.iload 5, 2) := dk_21 5 (dk_at dksX2_transcodeToUTF16_1 8 rfl rfl)
theorem dX2_transcodeToUTF16_34 : decode cX2_transcodeToUTF16 34 = .ok (.aload_n 3, 1) := dk_45 (dk_at dksX2_transcodeToUTF16_1 10 rfl rfl)
theorem dX2_transcodeToUTF16_35 : decode cX2_transcodeToUTF16 35 = .ok (.arraylength, 1) := dk_190 (dk_at dksX2_transcodeToUTF16_1 11 rfl rfl)
theorem dX2_transcodeToUTF16_36 : decode cX2_transcodeToUTF16 36 = .ok (.if_icmp .lt 5, 3) := dk_161 0 5 (dk_at dksX2_transcodeToUTF16_1 12 rfl rfl)
theorem dX2_transcodeToUTF16_39 : decode cX2_transcodeToUTF16 39 = .ok (.iconst (-1), 1) := dk_2 (dk_at dksX2_transcodeToUTF16_1 15 rfl rfl)
theorem dX2_transcodeToUTF16_40 : decode cX2_transcodeToUTF16 40 = .ok (.ireturn, 1) := dk_172 (dk_at dksX2_transcodeToUTF16_1 16 rfl rfl)
theorem dX2_transcodeToUTF16_41 : decode cX2_transcodeToUTF16 41 = .ok (.aload_n 3, 1) := dk_45 (dk_at dksX2_transcodeToUTF16_1 17 rfl rfl)
theorem dX2_transcodeToUTF16_42 : decode cX2_transcodeToUTF16 42 = .ok (.iload 5, 2) := dk_21 5 (dk_at dksX2_transcodeToUTF16_1 18 rfl rfl)
theorem dX2_transcodeToUTF16_44 : decode cX2_transcodeToUTF16 44 = .ok (.iinc 5 1, 3) := dk_132 5 1 (dk_at dksX2_transcodeToUTF16_1 20 rfl rfl)
theorem dX2_transcodeToUTF16_47 : decode cX2_transcodeToUTF16 47 = .ok (.iload 7, 2) := dk_21 7 (dk_at dksX2_transcodeToUTF16_2 0 rfl rfl)
theorem dX2_transcodeToUTF16_49 : decode cX2_transcodeToUTF16 49 = .ok (.i2c, 1) := dk_146 (dk_at dksX2_transcodeToUTF16_2 2 rfl rfl)
theorem dX2_transcodeToUTF16_50 : decode cX2_transcodeToUTF16 50 = .ok (.castore, 1) := dk_85 (dk_at dksX2_transcodeToUTF16_2 3 rfl rfl)
theorem dX2_transcodeToUTF16_51 : decode cX2_transcodeToUTF16 51 = .ok (.goto (-40), 3) := dk_167 255 216 (dk_at dksX2_transcodeToUTF16_2 4 rfl rfl)
theorem dX2_transcodeToUTF16_54 : decode cX2_transcodeToUTF16 54 = .ok (.getstatic 7, 3) := dk_178 0 7 (dk_at dksX2_transcodeToUTF16_2 7 rfl rfl)
theorem dX2_transcodeToUTF16_57 : decode cX2_transcodeToUTF16 57 = .ok (.iload 7, 2) := dk_21 7 (dk_at dksX2_transcodeToUTF16_2 10 rfl rfl)
theorem dX2_transcodeToUTF16_59 : decode cX2_transcodeToUTF16 59 = .ok (.bipush 127, 2) := dk_16 127 (dk_at dksX2_transcodeToUTF16_2 12 rfl rfl)
theorem dX2_transcodeToUTF16_61 : decode cX2_transcodeToUTF16 61 = .ok (.iand, 1) := dk_126 (dk_at dksX2_transcodeToUTF16_2 14 rfl rfl)
theorem dX2_transcodeToUTF16_62 : decode cX2_transcodeToUTF16 62 = .ok (.saload, 1) := dk_53 (dk_at dksX2_transcodeToUTF16_2 15 rfl rfl)
theorem dX2_transcodeToUTF16_63 : decode cX2_transcodeToUTF16 63 = .ok (.istore 8, 2) := dk_54 8 (dk_at dksX2_transcodeToUTF16_2 16 rfl rfl)
theorem dX2_transcodeToUTF16_65 : decode cX2_transcodeToUTF16 65 = .ok (.iload 8, 2) := dk_21 8 (dk_at dksX2_transcodeToUTF16_2 18 rfl rfl)
theorem dX2_transcodeToUTF16_67 : decode cX2_transcodeToUTF16 67 = .ok (.bipush 8, 2) := dk_16 8 (dk_at dksX2_transcodeToUTF16_2 20 rfl rfl)
theorem dX2_transcodeToUTF16_69 : decode cX2_transcodeToUTF16 69 = .ok (.iushr, 1) := dk_124 (dk_at dksX2_transcodeToUTF16_2 22 rfl rfl)
theorem dX2_transcodeToUTF16_70 : decode cX2_transcodeToUTF16 70 = .ok (.istore 9, 2) := dk_54 9 (dk_at dksX2_transcodeToUTF16_3 0 rfl rfl)
theorem dX2_transcodeToUTF16_72 : decode cX2_transcodeToUTF16 72 = .ok (.iload 8, 2) := dk_21 8 (dk_at dksX2_transcodeToUTF16_3 2 rfl rfl)
theorem dX2_transcodeToUTF16_74 : decode cX2_transcodeToUTF16 74 = .ok (.i2b, 1) := dk_145 (dk_at dksX2_transcodeToUTF16_3 4 rfl rfl)
theorem dX2_transcodeToUTF16_75 : decode cX2_transcodeToUTF16 75 = .ok (.istore 10, 2) := dk_54 10 (dk_at dksX2_transcodeToUTF16_3 5 rfl rfl)
theorem dX2_transcodeToUTF16_77 : decode cX2_transcodeToUTF16 77 = .ok (.iload 10, 2) := dk_21 10 (dk_at dksX2_transcodeToUTF16_3 7 rfl rfl)
theorem dX2_transcodeToUTF16_79 : decode cX2_transcodeToUTF16 79 = .ok (.ifCond .lt 54, 3) := dk_155 0 54 (dk_at dksX2_transcodeToUTF16_3 9 rfl rfl)
theorem dX2_transcodeToUTF16_82 : decode cX2_transcodeToUTF16 82 = .ok (.iload 4, 2) := dk_21 4 (dk_at dksX2_transcodeToUTF16_3 12 rfl rfl)
theorem dX2_transcodeToUTF16_84 : decode cX2_transcodeToUTF16 84 = .ok (.iload 6, 2) := dk_21 6 (dk_at dksX2_transcodeToUTF16_3 14 rfl rfl)
theorem dX2_transcodeToUTF16_86 : decode cX2_transcodeToUTF16 86 = .ok (.if_icmp .lt 5, 3) := dk_161 0 5 (dk_at dksX2_transcodeToUTF16_3 16 rfl rfl)
theorem dX2_transcodeToUTF16_89 : decode cX2_transcodeToUTF16 89 = .ok (.iconst (-1), 1) := dk_2 (dk_at dksX2_transcodeToUTF16_3 19 rfl rfl)
theorem dX2_transcodeToUTF16_90 : decode cX2_transcodeToUTF16 90 = .ok (.ireturn, 1) := dk_172 (dk_at dksX2_transcodeToUTF16_3 20 rfl rfl)
theorem dX2_transcodeToUTF16_91 : decode cX2_transcodeToUTF16 91 = .ok (.aload_n 0, 1) := dk_42 (dk_at dksX2_transcodeToUTF16_3 21 rfl rfl)
theorem dX2_transcodeToUTF16_92 : decode cX2_transcodeToUTF16 92 = .ok (.iload 4, 2) := dk_21 4 (dk_at dksX2_transcodeToUTF16_3 22 rfl rfl)
theorem dX2_transcodeToUTF16_94 : decode cX2_transcodeToUTF16 94 = .ok (.iinc 4 1, 3) := dk_132 4 1 (dk_at dksX2_transcodeToUTF16_4 0 rfl rfl)
theorem dX2_transcodeToUTF16_97 : decode cX2_transcodeToUTF16 97 = .ok (.baload, 1) := dk_51 (dk_at dksX2_transcodeToUTF16_4 3 rfl rfl)
theorem dX2_transcodeToUTF16_98 : decode cX2_transcodeToUTF16 98 = .ok (.istore 7, 2) := dk_54 7 (dk_at dksX2_transcodeToUTF16_4 4 rfl rfl)
theorem dX2_transcodeToUTF16_100 : decode cX2_transcodeToUTF16 100 = .ok (.iload 9, 2) := dk_21 9 (dk_at dksX2_transcodeToUTF16_4 6 rfl rfl)
theorem dX2_transcodeToUTF16_102 : decode cX2_transcodeToUTF16 102 = .ok (.bipush 6, 2) := dk_16 6 (dk_at dksX2_transcodeToUTF16_4 8 rfl rfl)
theorem dX2_transcodeToUTF16_104 : decode cX2_transcodeToUTF16 104 = .ok (.ishl, 1) := dk_120 (dk_at dksX2_transcodeToUTF16_4 10 rfl rfl)
theorem dX2_transcodeToUTF16_105 : decode cX2_transcodeToUTF16 105 = .ok (.iload 7, 2) := dk_21 7 (dk_at dksX2_transcodeToUTF16_4 11 rfl rfl)
theorem dX2_transcodeToUTF16_107 : decode cX2_transcodeToUTF16 107 = .ok (.bipush 63, 2) := dk_16 63 (dk_at dksX2_transcodeToUTF16_4 13 rfl rfl)
theorem dX2_transcodeToUTF16_109 : decode cX2_transcodeToUTF16 109 = .ok (.iand, 1) := dk_126 (dk_at dksX2_transcodeToUTF16_4 15 rfl rfl)
theorem dX2_transcodeToUTF16_110 : decode cX2_transcodeToUTF16 110 = .ok (.ior, 1) := dk_128 (dk_at dksX2_transcodeToUTF16_4 16 rfl rfl)
theorem dX2_transcodeToUTF16_111 : decode cX2_transcodeToUTF16 111 = .ok (.istore 9, 2) := dk_54 9 (dk_at dksX2_transcodeToUTF16_4 17 rfl rfl)
theorem dX2_transcodeToUTF16_113 : decode cX2_transcodeToUTF16 113 = .ok (.getstatic 13, 3) := dk_178 0 13 (dk_at dksX2_transcodeToUTF16_4 19 rfl rfl)
theorem dX2_transcodeToUTF16_116 : decode cX2_transcodeToUTF16 116 = .ok (.iload 10, 2) := dk_21 10 (dk_at dksX2_transcodeToUTF16_4 22 rfl rfl)
theorem dX2_transcodeToUTF16_118 : decode cX2_transcodeToUTF16 118 = .ok (.iload 7, 2) := dk_21 7 (dk_at dksX2_transcodeToUTF16_5 0 rfl rfl)
theorem dX2_transcodeToUTF16_120 : decode cX2_transcodeToUTF16 120 = .ok (.sipush 255, 3) := dk_17 0 255 (dk_at dksX2_transcodeToUTF16_5 2 rfl rfl)
theorem dX2_transcodeToUTF16_123 : decode cX2_transcodeToUTF16 123 = .ok (.iand, 1) := dk_126 (dk_at dksX2_transcodeToUTF16_5 5 rfl rfl)
theorem dX2_transcodeToUTF16_124 : decode cX2_transcodeToUTF16 124 = .ok (.iconst 4, 1) := dk_7 (dk_at dksX2_transcodeToUTF16_5 6 rfl rfl)
theorem dX2_transcodeToUTF16_125 : decode cX2_transcodeToUTF16 125 = .ok (.iushr, 1) := dk_124 (dk_at dksX2_transcodeToUTF16_5 7 rfl rfl)
theorem dX2_transcodeToUTF16_126 : decode cX2_transcodeToUTF16 126 = .ok (.iadd, 1) := dk_96 (dk_at dksX2_transcodeToUTF16_5 8 rfl rfl)
theorem dX2_transcodeToUTF16_127 : decode cX2_transcodeToUTF16 127 = .ok (.baload, 1) := dk_51 (dk_at dksX2_transcodeToUTF16_5 9 rfl rfl)
theorem dX2_transcodeToUTF16_128 : decode cX2_transcodeToUTF16 128 = .ok (.istore 10, 2) := dk_54 10 (dk_at dksX2_transcodeToUTF16_5 10 rfl rfl)
theorem dX2_transcodeToUTF16_130 : decode cX2_transcodeToUTF16 130 = .ok (.goto (-53), 3) := dk_167 255 203 (dk_at dksX2_transcodeToUTF16_5 12 rfl rfl)
theorem dX2_transcodeToUTF16_133 : decode cX2_transcodeToUTF16 133 = .ok (.iload 10, 2) := dk_21 10 (dk_at dksX2_transcodeToUTF16_5 15 rfl rfl)
theorem dX2_transcodeToUTF16_135 : decode cX2_transcodeToUTF16 135 = .ok (.bipush (-2), 2) := dk_16 254 (dk_at dksX2_transcodeToUTF16_5 17 rfl rfl)
theorem dX2_transcodeToUTF16_137 : decode cX2_transcodeToUTF16 137 = .ok (.if_icmp .ne 5, 3) := dk_160 0 5 (dk_at dksX2_transcodeToUTF16_5 19 rfl rfl)
theorem dX2_transcodeToUTF16_140 : decode cX2_transcodeToUTF16 140 = .ok (.iconst (-1), 1) := dk_2 (dk_at dksX2_transcodeToUTF16_5 22 rfl rfl)
theorem dX2_transcodeToUTF16_141 : decode cX2_transcodeToUTF16 141 = .ok (.ireturn, 1) := dk_172 (dk_at dksX2_transcodeToUTF16_5 23 rfl rfl)
theorem dX2_transcodeToUTF16_142 : decode cX2_transcodeToUTF16 142 = .ok (.iload 9, 2) := dk_21 9 (dk_at dksX2_transcodeToUTF16_6 0 rfl rfl)
theorem dX2_transcodeToUTF16_144 : decode cX2_transcodeToUTF16 144 = .ok (.ldc 17, 2) := dk_18 17 (dk_at dksX2_transcodeToUTF16_6 2 rfl rfl)
theorem dX2_transcodeToUTF16_146 : decode cX2_transcodeToUTF16 146 = .ok (.if_icmp .gt 25, 3) := dk_163 0 25 (dk_at dksX2_transcodeToUTF16_6 4 rfl rfl)
theorem dX2_transcodeToUTF16_149 : decode cX2_transcodeToUTF16 149 = .ok (.iload 5, 2) := dk_21 5 (dk_at dksX2_transcodeToUTF16_6 7 rfl rfl)
theorem dX2_transcodeToUTF16_151 : decode cX2_transcodeToUTF16 151 = .ok (.aload_n 3, 1) := dk_45 (dk_at dksX2_transcodeToUTF16_6 9 rfl rfl)
theorem dX2_transcodeToUTF16_152 : decode cX2_transcodeToUTF16 152 = .ok (.arraylength, 1) := dk_190 (dk_at dksX2_transcodeToUTF16_6 10 rfl rfl)
theorem dX2_transcodeToUTF16_153 : decode cX2_transcodeToUTF16 153 = .ok (.if_icmp .lt 5, 3) := dk_161 0 5 (dk_at dksX2_transcodeToUTF16_6 11 rfl rfl)
theorem dX2_transcodeToUTF16_156 : decode cX2_transcodeToUTF16 156 = .ok (.iconst (-1), 1) := dk_2 (dk_at dksX2_transcodeToUTF16_6 14 rfl rfl)
theorem dX2_transcodeToUTF16_157 : decode cX2_transcodeToUTF16 157 = .ok (.ireturn, 1) := dk_172 (dk_at dksX2_transcodeToUTF16_6 15 rfl rfl)
theorem dX2_transcodeToUTF16_158 : decode cX2_transcodeToUTF16 158 = .ok (.aload_n 3, 1) := dk_45 (dk_at dksX2_transcodeToUTF16_6 16 rfl rfl)
theorem dX2_transcodeToUTF16_159 : decode cX2_transcodeToUTF16 159 = .ok (.iload 5, 2) := dk_21 5 (dk_at dksX2_transcodeToUTF16_6 17 rfl rfl)
theorem dX2_transcodeToUTF16_161 : decode cX2_transcodeToUTF16 161 = .ok (.iinc 5 1, 3) := dk_132 5 1 (dk_at dksX2_transcodeToUTF16_6 19 rfl rfl)
theorem dX2_transcodeToUTF16_164 : decode cX2_transcodeToUTF16 164 = .ok (.iload 9, 2) := dk_21 9 (dk_at dksX2_transcodeToUTF16_6 22 rfl rfl)
theorem dX2_transcodeToUTF16_166 : decode cX2_transcodeToUTF16 166 = .ok (.i2c, 1) := dk_146 (dk_at dksX2_transcodeToUTF16_7 0 rfl rfl)
theorem dX2_transcodeToUTF16_167 : decode cX2_transcodeToUTF16 167 = .ok (.castore, 1) := dk_85 (dk_at dksX2_transcodeToUTF16_7 1 rfl rfl)
theorem dX2_transcodeToUTF16_168 : decode cX2_transcodeToUTF16 168 = .ok (.goto 47, 3) := dk_167 0 47 (dk_at dksX2_transcodeToUTF16_7 2 rfl rfl)
theorem dX2_transcodeToUTF16_171 : decode cX2_transcodeToUTF16 171 = .ok (.iload 5, 2) := dk_21 5 (dk_at dksX2_transcodeToUTF16_7 5 rfl rfl)
theorem dX2_transcodeToUTF16_173 : decode cX2_transcodeToUTF16 173 = .ok (.aload_n 3, 1) := dk_45 (dk_at dksX2_transcodeToUTF16_7 7 rfl rfl)
theorem dX2_transcodeToUTF16_174 : decode cX2_transcodeToUTF16 174 = .ok (.arraylength, 1) := dk_190 (dk_at dksX2_transcodeToUTF16_7 8 rfl rfl)
theorem dX2_transcodeToUTF16_175 : decode cX2_transcodeToUTF16 175 = .ok (.iconst 1, 1) := dk_4 (dk_at dksX2_transcodeToUTF16_7 9 rfl rfl)
theorem dX2_transcodeToUTF16_176 : decode cX2_transcodeToUTF16 176 = .ok (.isub, 1) := dk_100 (dk_at dksX2_transcodeToUTF16_7 10 rfl rfl)
theorem dX2_transcodeToUTF16_177 : decode cX2_transcodeToUTF16 177 = .ok (.if_icmp .lt 5, 3) := dk_161 0 5 (dk_at dksX2_transcodeToUTF16_7 11 rfl rfl)
theorem dX2_transcodeToUTF16_180 : decode cX2_transcodeToUTF16 180 = .ok (.iconst (-1), 1) := dk_2 (dk_at dksX2_transcodeToUTF16_7 14 rfl rfl)
theorem dX2_transcodeToUTF16_181 : decode cX2_transcodeToUTF16 181 = .ok (.ireturn, 1) := dk_172 (dk_at dksX2_transcodeToUTF16_7 15 rfl rfl)
theorem dX2_transcodeToUTF16_182 : decode cX2_transcodeToUTF16 182 = .ok (.aload_n 3, 1) := dk_45 (dk_at dksX2_transcodeToUTF16_7 16 rfl rfl)
theorem dX2_transcodeToUTF16_183 : decode cX2_transcodeToUTF16 183 = .ok (.iload 5, 2) := dk_21 5 (dk_at dksX2_transcodeToUTF16_7 17 rfl rfl)
theorem dX2_transcodeToUTF16_185 : decode cX2_transcodeToUTF16 185 = .ok (.iinc 5 1, 3) := dk_132 5 1 (dk_at dksX2_transcodeToUTF16_7 19 rfl rfl)
theorem dX2_transcodeToUTF16_188 : decode cX2_transcodeToUTF16 188 = .ok (.ldc 18, 2) := dk_18 18 (dk_at dksX2_transcodeToUTF16_7 22 rfl rfl)
theorem dX2_transcodeToUTF16_190 : decode cX2_transcodeToUTF16 190 = .ok (.iload 9, 2) := dk_21 9 (dk_at dksX2_transcodeToUTF16_8 0 rfl rfl)
theorem dX2_transcodeToUTF16_192 : decode cX2_transcodeToUTF16 192 = .ok (.bipush 10, 2) := dk_16 10 (dk_at dksX2_transcodeToUTF16_8 2 rfl rfl)
theorem dX2_transcodeToUTF16_194 : decode cX2_transcodeToUTF16 194 = .ok (.iushr, 1) := dk_124 (dk_at dksX2_transcodeToUTF16_8 4 rfl rfl)
theorem dX2_transcodeToUTF16_195 : decode cX2_transcodeToUTF16 195 = .ok (.iadd, 1) := dk_96 (dk_at dksX2_transcodeToUTF16_8 5 rfl rfl)
theorem dX2_transcodeToUTF16_196 : decode cX2_transcodeToUTF16 196 = .ok (.i2c, 1) := dk_146 (dk_at dksX2_transcodeToUTF16_8 6 rfl rfl)
theorem dX2_transcodeToUTF16_197 : decode cX2_transcodeToUTF16 197 = .ok (.castore, 1) := dk_85 (dk_at dksX2_transcodeToUTF16_8 7 rfl rfl)
theorem dX2_transcodeToUTF16_198 : decode cX2_transcodeToUTF16 198 = .ok (.aload_n 3, 1) := dk_45 (dk_at dksX2_transcodeToUTF16_8 8 rfl rfl)
theorem dX2_transcodeToUTF16_199 : decode cX2_transcodeToUTF16 199 = .ok (.iload 5, 2) := dk_21 5 (dk_at dksX2_transcodeToUTF16_8 9 rfl rfl)
theorem dX2_transcodeToUTF16_201 : decode cX2_transcodeToUTF16 201 = .ok (.iinc 5 1, 3) := dk_132 5 1 (dk_at dksX2_transcodeToUTF16_8 11 rfl rfl)
theorem dX2_transcodeToUTF16_204 : decode cX2_transcodeToUTF16 204 = .ok (.ldc 19, 2) := dk_18 19 (dk_at dksX2_transcodeToUTF16_8 14 rfl rfl)
theorem dX2_transcodeToUTF16_206 : decode cX2_transcodeToUTF16 206 = .ok (.iload 9, 2) := dk_21 9 (dk_at dksX2_transcodeToUTF16_8 16 rfl rfl)
theorem dX2_transcodeToUTF16_208 : decode cX2_transcodeToUTF16 208 = .ok (.sipush 1023, 3) := dk_17 3 255 (dk_at dksX2_transcodeToUTF16_8 18 rfl rfl)
theorem dX2_transcodeToUTF16_211 : decode cX2_transcodeToUTF16 211 = .ok (.iand, 1) := dk_126 (dk_at dksX2_transcodeToUTF16_8 21 rfl rfl)
theorem dX2_transcodeToUTF16_212 : decode cX2_transcodeToUTF16 212 = .ok (.ior, 1) := dk_128 (dk_at dksX2_transcodeToUTF16_8 22 rfl rfl)
theorem dX2_transcodeToUTF16_213 : decode cX2_transcodeToUTF16 213 = .ok (.i2c, 1) := dk_146 (dk_at dksX2_transcodeToUTF16_8 23 rfl rfl)
theorem dX2_transcodeToUTF16_214 : decode cX2_transcodeToUTF16 214 = .ok (.castore, 1) := dk_85 (dk_at dksX2_transcodeToUTF16_9 0 rfl rfl)
theorem dX2_transcodeToUTF16_215 : decode cX2_transcodeToUTF16 215 = .ok (.goto (-204), 3) := dk_167 255 52 (dk_at dksX2_transcodeToUTF16_9 1 rfl rfl)
theorem dX2_transcodeToUTF16_218 : decode cX2_transcodeToUTF16 218 = .ok (.iload 5, 2) := dk_21 5 (dk_at dksX2_transcodeToUTF16_9 4 rfl rfl)
theorem dX2_transcodeToUTF16_220 : decode cX2_transcodeToUTF16 220 = .ok (.ireturn, 1) := dk_172 (dk_at dksX2_transcodeToUTF16_9 6 rfl rfl)
theorem q4 : (Jvm.Cond.initialized "UTF8") ∈ lw_all := lw_g (lw_at lw_m0 3 rfl) rfl
theorem q52 : (Jvm.Cond.static ({ cls := "UTF8", name := "transcodeToUTF16", desc := "([BII[C)I" } : Jvm.MethodName)) ∈ lw_all := lw_g (lw_at lw_m0 51 rfl) rfl
theorem q53 : (Jvm.Cond.code ({ cls := "UTF8", name := "transcodeToUTF16", desc := "([BII[C)I" } : Jvm.MethodName) prog_1_method_3_code (11 : Nat) (Option.some Jvm.ClassFile.FieldType.int)) ∈ lw_all := lw_g (lw_at lw_m0 52 rfl) rfl
theorem q54 : (Jvm.Cond.fieldLink "UTF8" (7 : Nat) "UTF8" "firstUnitTable" "[S") ∈ lw_all := lw_g (lw_at lw_m0 53 rfl) rfl
theorem q55 : (Jvm.Cond.laysStatic "UTF8" "firstUnitTable" "[S") ∈ lw_tbl := lw_at lw_m0 54 rfl
theorem q56 : (Jvm.Cond.fieldLink "UTF8" (13 : Nat) "UTF8" "transitionTable" "[B") ∈ lw_all := lw_g (lw_at lw_m0 55 rfl) rfl
theorem q57 : (Jvm.Cond.laysStatic "UTF8" "transitionTable" "[B") ∈ lw_tbl := lw_at lw_m0 56 rfl
theorem q58 : (Jvm.Cond.constant "UTF8" (17 : Nat) (65535 : Int32)) ∈ lw_all := lw_g (lw_at lw_m0 57 rfl) rfl
theorem q59 : (Jvm.Cond.constant "UTF8" (18 : Nat) (55232 : Int32)) ∈ lw_all := lw_g (lw_at lw_m0 58 rfl) rfl
theorem q60 : (Jvm.Cond.constant "UTF8" (19 : Nat) (56320 : Int32)) ∈ lw_all := lw_g (lw_at lw_m0 59 rfl) rfl

/-! the law's own entry -/
set_option maxRecDepth 100000
abbrev cL_law : ByteArray := code
def dkwL_law_9 : List UInt8 := [132, 3, 6, 167, 255, 55, 4, 172]
abbrev dktL_law_9 : List UInt8 := dkwL_law_9 ++ []
def dkwL_law_8 : List UInt8 := [172, 43, 42, 29, 4, 96, 46, 182, 0, 38, 44, 42, 29, 4, 96, 46, 182, 0, 41, 159, 0, 5, 3, 172]
abbrev dktL_law_8 : List UInt8 := dkwL_law_8 ++ dktL_law_9
def dkwL_law_7 : List UInt8 := [5, 96, 46, 182, 0, 33, 44, 42, 29, 4, 96, 46, 42, 29, 5, 96, 46, 182, 0, 37, 159, 0, 28, 3]
abbrev dktL_law_7 : List UInt8 := dkwL_law_7 ++ dktL_law_8
def dkwL_law_6 : List UInt8 := [167, 0, 72, 43, 182, 0, 28, 44, 182, 0, 32, 159, 0, 61, 3, 172, 43, 42, 29, 4, 96, 46, 42, 29]
abbrev dktL_law_6 : List UInt8 := dkwL_law_6 ++ dktL_law_7
def dkwL_law_5 : List UInt8 := [182, 0, 22, 167, 0, 93, 43, 42, 29, 4, 96, 46, 182, 0, 23, 44, 42, 29, 4, 96, 46, 182, 0, 27]
abbrev dktL_law_5 : List UInt8 := dkwL_law_5 ++ dktL_law_6
def dkwL_law_4 : List UInt8 := [42, 29, 4, 96, 46, 42, 29, 5, 96, 46, 182, 0, 18, 44, 42, 29, 4, 96, 46, 42, 29, 5, 96, 46]
abbrev dktL_law_4 : List UInt8 := dkwL_law_4 ++ dktL_law_5
def dkwL_law_3 : List UInt8 := [43, 42, 29, 4, 96, 46, 182, 0, 13, 44, 42, 29, 4, 96, 46, 182, 0, 17, 159, 0, 126, 3, 172, 43]
abbrev dktL_law_3 : List UInt8 := dkwL_law_3 ++ dktL_law_4
def dkwL_law_2 : List UInt8 := [170, 0, 0, 0, 0, 0, 183, 0, 0, 0, 0, 0, 0, 0, 5, 0, 0, 0, 39, 0, 0, 0, 62, 0, 0, 0, 93, 0, 0, 0, 114, 0, 0, 0, 127, 0, 0, 0, 160]
abbrev dktL_law_2 : List UInt8 := dkwL_law_2 ++ dktL_law_3
def dkwL_law_1 : List UInt8 := [163, 0, 198, 42, 29, 46, 16, 7, 126]
abbrev dktL_law_1 : List UInt8 := dkwL_law_1 ++ dktL_law_2
def dkwL_law_0 : List UInt8 := [187, 0, 7, 89, 183, 0, 9, 76, 187, 0, 10, 89, 183, 0, 12, 77, 3, 62, 29, 42, 190, 16, 6, 100]
abbrev dktL_law_0 : List UInt8 := dkwL_law_0 ++ dktL_law_1
theorem dksL_law_0 : cL_law.data.toList.drop 0 = dktL_law_0 := by decide +kernel
theorem dksL_law_1 : cL_law.data.toList.drop 24 = dktL_law_1 := dk_seg dksL_law_0 24 rfl rfl
theorem dksL_law_2 : cL_law.data.toList.drop 33 = dktL_law_2 := dk_seg dksL_law_1 9 rfl rfl
theorem dksL_law_3 : cL_law.data.toList.drop 72 = dktL_law_3 := dk_seg dksL_law_2 39 rfl rfl
theorem dksL_law_4 : cL_law.data.toList.drop 96 = dktL_law_4 := dk_seg dksL_law_3 24 rfl rfl
theorem dksL_law_5 : cL_law.data.toList.drop 120 = dktL_law_5 := dk_seg dksL_law_4 24 rfl rfl
theorem dksL_law_6 : cL_law.data.toList.drop 144 = dktL_law_6 := dk_seg dksL_law_5 24 rfl rfl
theorem dksL_law_7 : cL_law.data.toList.drop 168 = dktL_law_7 := dk_seg dksL_law_6 24 rfl rfl
theorem dksL_law_8 : cL_law.data.toList.drop 192 = dktL_law_8 := dk_seg dksL_law_7 24 rfl rfl
theorem dksL_law_9 : cL_law.data.toList.drop 216 = dktL_law_9 := dk_seg dksL_law_8 24 rfl rfl
theorem dL_law_0 : decode cL_law 0 = .ok (.new 7, 3) := dk_187 0 7 (dk_at dksL_law_0 0 rfl rfl)
theorem dL_law_3 : decode cL_law 3 = .ok (.dup, 1) := dk_89 (dk_at dksL_law_0 3 rfl rfl)
theorem dL_law_4 : decode cL_law 4 = .ok (.invokespecial 9, 3) := dk_183 0 9 (dk_at dksL_law_0 4 rfl rfl)
theorem dL_law_7 : decode cL_law 7 = .ok (.astore_n 1, 1) := dk_76 (dk_at dksL_law_0 7 rfl rfl)
theorem dL_law_8 : decode cL_law 8 = .ok (.new 10, 3) := dk_187 0 10 (dk_at dksL_law_0 8 rfl rfl)
theorem dL_law_11 : decode cL_law 11 = .ok (.dup, 1) := dk_89 (dk_at dksL_law_0 11 rfl rfl)
theorem dL_law_12 : decode cL_law 12 = .ok (.invokespecial 12, 3) := dk_183 0 12 (dk_at dksL_law_0 12 rfl rfl)
theorem dL_law_15 : decode cL_law 15 = .ok (.astore_n 2, 1) := dk_77 (dk_at dksL_law_0 15 rfl rfl)
theorem dL_law_16 : decode cL_law 16 = .ok (.iconst 0, 1) := dk_3 (dk_at dksL_law_0 16 rfl rfl)
theorem dL_law_17 : decode cL_law 17 = .ok (.istore_n 3, 1) := dk_62 (dk_at dksL_law_0 17 rfl rfl)
theorem dL_law_18 : decode cL_law 18 = .ok (.iload_n 3, 1) := dk_29 (dk_at dksL_law_0 18 rfl rfl)
theorem dL_law_19 : decode cL_law 19 = .ok (.aload_n 0, 1) := dk_42 (dk_at dksL_law_0 19 rfl rfl)
theorem dL_law_20 : decode cL_law 20 = .ok (.arraylength, 1) := dk_190 (dk_at dksL_law_0 20 rfl rfl)
theorem dL_law_21 : decode cL_law 21 = .ok (.bipush 6, 2) := dk_16 6 (dk_at dksL_law_0 21 rfl rfl)
theorem dL_law_23 : decode cL_law 23 = .ok (.isub, 1) := dk_100 (dk_at dksL_law_0 23 rfl rfl)
theorem dL_law_24 : decode cL_law 24 = .ok (.if_icmp .gt 198, 3) := dk_163 0 198 (dk_at dksL_law_1 0 rfl rfl)
theorem dL_law_27 : decode cL_law 27 = .ok (.aload_n 0, 1) := dk_42 (dk_at dksL_law_1 3 rfl rfl)
theorem dL_law_28 : decode cL_law 28 = .ok (.iload_n 3, 1) := dk_29 (dk_at dksL_law_1 4 rfl rfl)
theorem dL_law_29 : decode cL_law 29 = .ok (.iaload, 1) := dk_46 (dk_at dksL_law_1 5 rfl rfl)
theorem dL_law_30 : decode cL_law 30 = .ok (.bipush 7, 2) := dk_16 7 (dk_at dksL_law_1 6 rfl rfl)
theorem dL_law_32 : decode cL_law 32 = .ok (.iand, 1) := dk_126 (dk_at dksL_law_1 8 rfl rfl)
theorem dL_law_33 : decode cL_law 33 = .ok (.tableswitch 183 0 5 #[39, 62, 93, 114, 127, 160], 39) := by decide +kernel
theorem dL_law_72 : decode cL_law 72 = .ok (.aload_n 1, 1) := dk_43 (dk_at dksL_law_3 0 rfl rfl)
theorem dL_law_73 : decode cL_law 73 = .ok (.aload_n 0, 1) := dk_42 (dk_at dksL_law_3 1 rfl rfl)
theorem dL_law_74 : decode cL_law 74 = .ok (.iload_n 3, 1) := dk_29 (dk_at dksL_law_3 2 rfl rfl)
theorem dL_law_75 : decode cL_law 75 = .ok (.iconst 1, 1) := dk_4 (dk_at dksL_law_3 3 rfl rfl)
theorem dL_law_76 : decode cL_law 76 = .ok (.iadd, 1) := dk_96 (dk_at dksL_law_3 4 rfl rfl)
theorem dL_law_77 : decode cL_law 77 = .ok (.iaload, 1) := dk_46 (dk_at dksL_law_3 5 rfl rfl)
theorem dL_law_78 : decode cL_law 78 = .ok (.invokevirtual 13, 3) := dk_182 0 13 (dk_at dksL_law_3 6 rfl rfl)
theorem dL_law_81 : decode cL_law 81 = .ok (.aload_n 2, 1) := dk_44 (dk_at dksL_law_3 9 rfl rfl)
theorem dL_law_82 : decode cL_law 82 = .ok (.aload_n 0, 1) := dk_42 (dk_at dksL_law_3 10 rfl rfl)
theorem dL_law_83 : decode cL_law 83 = .ok (.iload_n 3, 1) := dk_29 (dk_at dksL_law_3 11 rfl rfl)
theorem dL_law_84 : decode cL_law 84 = .ok (.iconst 1, 1) := dk_4 (dk_at dksL_law_3 12 rfl rfl)
theorem dL_law_85 : decode cL_law 85 = .ok (.iadd, 1) := dk_96 (dk_at dksL_law_3 13 rfl rfl)
theorem dL_law_86 : decode cL_law 86 = .ok (.iaload, 1) := dk_46 (dk_at dksL_law_3 14 rfl rfl)
theorem dL_law_87 : decode cL_law 87 = .ok (.invokevirtual 17, 3) := dk_182 0 17 (dk_at dksL_law_3 15 rfl rfl)
theorem dL_law_90 : decode cL_law 90 = .ok (.if_icmp .eq 126, 3) := dk_159 0 126 (dk_at dksL_law_3 18 rfl rfl)
theorem dL_law_93 : decode cL_law 93 = .ok (.iconst 0, 1) := dk_3 (dk_at dksL_law_3 21 rfl rfl)
theorem dL_law_94 : decode cL_law 94 = .ok (.ireturn, 1) := dk_172 (dk_at dksL_law_3 22 rfl rfl)
theorem dL_law_95 : decode cL_law 95 = .ok (.aload_n 1, 1) := dk_43 (dk_at dksL_law_3 23 rfl rfl)
theorem dL_law_96 : decode cL_law 96 = .ok (.aload_n 0, 1) := dk_42 (dk_at dksL_law_4 0 rfl rfl)
theorem dL_law_97 : decode cL_law 97 = .ok (.iload_n 3, 1) := dk_29 (dk_at dksL_law_4 1 rfl rfl)
theorem dL_law_98 : decode cL_law 98 = .ok (.iconst 1, 1) := dk_4 (dk_at dksL_law_4 2 rfl rfl)
theorem dL_law_99 : decode cL_law 99 = .ok (.iadd, 1) := dk_96 (dk_at dksL_law_4 3 rfl rfl)
theorem dL_law_100 : decode cL_law 100 = .ok (.iaload, 1) := dk_46 (dk_at dksL_law_4 4 rfl rfl)
theorem dL_law_101 : decode cL_law 101 = .ok (.aload_n 0, 1) := dk_42 (dk_at dksL_law_4 5 rfl rfl)
theorem dL_law_102 : decode cL_law 102 = .ok (.iload_n 3, 1) := dk_29 (dk_at dksL_law_4 6 rfl rfl)
theorem dL_law_103 : decode cL_law 103 = .ok (.iconst 2, 1) := dk_5 (dk_at dksL_law_4 7 rfl rfl)
theorem dL_law_104 : decode cL_law 104 = .ok (.iadd, 1) := dk_96 (dk_at dksL_law_4 8 rfl rfl)
theorem dL_law_105 : decode cL_law 105 = .ok (.iaload, 1) := dk_46 (dk_at dksL_law_4 9 rfl rfl)
theorem dL_law_106 : decode cL_law 106 = .ok (.invokevirtual 18, 3) := dk_182 0 18 (dk_at dksL_law_4 10 rfl rfl)
theorem dL_law_109 : decode cL_law 109 = .ok (.aload_n 2, 1) := dk_44 (dk_at dksL_law_4 13 rfl rfl)
theorem dL_law_110 : decode cL_law 110 = .ok (.aload_n 0, 1) := dk_42 (dk_at dksL_law_4 14 rfl rfl)
theorem dL_law_111 : decode cL_law 111 = .ok (.iload_n 3, 1) := dk_29 (dk_at dksL_law_4 15 rfl rfl)
theorem dL_law_112 : decode cL_law 112 = .ok (.iconst 1, 1) := dk_4 (dk_at dksL_law_4 16 rfl rfl)
theorem dL_law_113 : decode cL_law 113 = .ok (.iadd, 1) := dk_96 (dk_at dksL_law_4 17 rfl rfl)
theorem dL_law_114 : decode cL_law 114 = .ok (.iaload, 1) := dk_46 (dk_at dksL_law_4 18 rfl rfl)
theorem dL_law_115 : decode cL_law 115 = .ok (.aload_n 0, 1) := dk_42 (dk_at dksL_law_4 19 rfl rfl)
theorem dL_law_116 : decode cL_law 116 = .ok (.iload_n 3, 1) := dk_29 (dk_at dksL_law_4 20 rfl rfl)
theorem dL_law_117 : decode cL_law 117 = .ok (.iconst 2, 1) := dk_5 (dk_at dksL_law_4 21 rfl rfl)
theorem dL_law_118 : decode cL_law 118 = .ok (.iadd, 1) := dk_96 (dk_at dksL_law_4 22 rfl rfl)
theorem dL_law_119 : decode cL_law 119 = .ok (.iaload, 1) := dk_46 (dk_at dksL_law_4 23 rfl rfl)
theorem dL_law_120 : decode cL_law 120 = .ok (.invokevirtual 22, 3) := dk_182 0 22 (dk_at dksL_law_5 0 rfl rfl)
theorem dL_law_123 : decode cL_law 123 = .ok (.goto 93, 3) := dk_167 0 93 (dk_at dksL_law_5 3 rfl rfl)
theorem dL_law_126 : decode cL_law 126 = .ok (.aload_n 1, 1) := dk_43 (dk_at dksL_law_5 6 rfl rfl)
theorem dL_law_127 : decode cL_law 127 = .ok (.aload_n 0, 1) := dk_42 (dk_at dksL_law_5 7 rfl rfl)
theorem dL_law_128 : decode cL_law 128 = .ok (.iload_n 3, 1) := dk_29 (dk_at dksL_law_5 8 rfl rfl)
theorem dL_law_129 : decode cL_law 129 = .ok (.iconst 1, 1) := dk_4 (dk_at dksL_law_5 9 rfl rfl)
theorem dL_law_130 : decode cL_law 130 = .ok (.iadd, 1) := dk_96 (dk_at dksL_law_5 10 rfl rfl)
theorem dL_law_131 : decode cL_law 131 = .ok (.iaload, 1) := dk_46 (dk_at dksL_law_5 11 rfl rfl)
theorem dL_law_132 : decode cL_law 132 = .ok (.invokevirtual 23, 3) := dk_182 0 23 (dk_at dksL_law_5 12 rfl rfl)
theorem dL_law_135 : decode cL_law 135 = .ok (.aload_n 2, 1) := dk_44 (dk_at dksL_law_5 15 rfl rfl)
theorem dL_law_136 : decode cL_law 136 = .ok (.aload_n 0, 1) := dk_42 (dk_at dksL_law_5 16 rfl rfl)
theorem dL_law_137 : decode cL_law 137 = .ok (.iload_n 3, 1) := dk_29 (dk_at dksL_law_5 17 rfl rfl)
theorem dL_law_138 : decode cL_law 138 = .ok (.iconst 1, 1) := dk_4 (dk_at dksL_law_5 18 rfl rfl)
theorem dL_law_139 : decode cL_law 139 = .ok (.iadd, 1) := dk_96 (dk_at dksL_law_5 19 rfl rfl)
theorem dL_law_140 : decode cL_law 140 = .ok (.iaload, 1) := dk_46 (dk_at dksL_law_5 20 rfl rfl)
theorem dL_law_141 : decode cL_law 141 = .ok (.invokevirtual 27, 3) := dk_182 0 27 (dk_at dksL_law_5 21 rfl rfl)
theorem dL_law_144 : decode cL_law 144 = .ok (.goto 72, 3) := dk_167 0 72 (dk_at dksL_law_6 0 rfl rfl)
theorem dL_law_147 : decode cL_law 147 = .ok (.aload_n 1, 1) := dk_43 (dk_at dksL_law_6 3 rfl rfl)
theorem dL_law_148 : decode cL_law 148 = .ok (.invokevirtual 28, 3) := dk_182 0 28 (dk_at dksL_law_6 4 rfl rfl)
theorem dL_law_151 : decode cL_law 151 = .ok (.aload_n 2, 1) := dk_44 (dk_at dksL_law_6 7 rfl rfl)
theorem dL_law_152 : decode cL_law 152 = .ok (.invokevirtual 32, 3) := dk_182 0 32 (dk_at dksL_law_6 8 rfl rfl)
theorem dL_law_155 : decode cL_law 155 = .ok (.if_icmp .eq 61, 3) := dk_159 0 61 (dk_at dksL_law_6 11 rfl rfl)
theorem dL_law_158 : decode cL_law 158 = .ok (.iconst 0, 1) := dk_3 (dk_at dksL_law_6 14 rfl rfl)
theorem dL_law_159 : decode cL_law 159 = .ok (.ireturn, 1) := dk_172 (dk_at dksL_law_6 15 rfl rfl)
theorem dL_law_160 : decode cL_law 160 = .ok (.aload_n 1, 1) := dk_43 (dk_at dksL_law_6 16 rfl rfl)
theorem dL_law_161 : decode cL_law 161 = .ok (.aload_n 0, 1) := dk_42 (dk_at dksL_law_6 17 rfl rfl)
theorem dL_law_162 : decode cL_law 162 = .ok (.iload_n 3, 1) := dk_29 (dk_at dksL_law_6 18 rfl rfl)
theorem dL_law_163 : decode cL_law 163 = .ok (.iconst 1, 1) := dk_4 (dk_at dksL_law_6 19 rfl rfl)
theorem dL_law_164 : decode cL_law 164 = .ok (.iadd, 1) := dk_96 (dk_at dksL_law_6 20 rfl rfl)
theorem dL_law_165 : decode cL_law 165 = .ok (.iaload, 1) := dk_46 (dk_at dksL_law_6 21 rfl rfl)
theorem dL_law_166 : decode cL_law 166 = .ok (.aload_n 0, 1) := dk_42 (dk_at dksL_law_6 22 rfl rfl)
theorem dL_law_167 : decode cL_law 167 = .ok (.iload_n 3, 1) := dk_29 (dk_at dksL_law_6 23 rfl rfl)
theorem dL_law_168 : decode cL_law 168 = .ok (.iconst 2, 1) := dk_5 (dk_at dksL_law_7 0 rfl rfl)
theorem dL_law_169 : decode cL_law 169 = .ok (.iadd, 1) := dk_96 (dk_at dksL_law_7 1 rfl rfl)
theorem dL_law_170 : decode cL_law 170 = .ok (.iaload, 1) := dk_46 (dk_at dksL_law_7 2 rfl rfl)
theorem dL_law_171 : decode cL_law 171 = .ok (.invokevirtual 33, 3) := dk_182 0 33 (dk_at dksL_law_7 3 rfl rfl)
theorem dL_law_174 : decode cL_law 174 = .ok (.aload_n 2, 1) := dk_44 (dk_at dksL_law_7 6 rfl rfl)
theorem dL_law_175 : decode cL_law 175 = .ok (.aload_n 0, 1) := dk_42 (dk_at dksL_law_7 7 rfl rfl)
theorem dL_law_176 : decode cL_law 176 = .ok (.iload_n 3, 1) := dk_29 (dk_at dksL_law_7 8 rfl rfl)
theorem dL_law_177 : decode cL_law 177 = .ok (.iconst 1, 1) := dk_4 (dk_at dksL_law_7 9 rfl rfl)
theorem dL_law_178 : decode cL_law 178 = .ok (.iadd, 1) := dk_96 (dk_at dksL_law_7 10 rfl rfl)
theorem dL_law_179 : decode cL_law 179 = .ok (.iaload, 1) := dk_46 (dk_at dksL_law_7 11 rfl rfl)
theorem dL_law_180 : decode cL_law 180 = .ok (.aload_n 0, 1) := dk_42 (dk_at dksL_law_7 12 rfl rfl)
theorem dL_law_181 : decode cL_law 181 = .ok (.iload_n 3, 1) := dk_29 (dk_at dksL_law_7 13 rfl rfl)
theorem dL_law_182 : decode cL_law 182 = .ok (.iconst 2, 1) := dk_5 (dk_at dksL_law_7 14 rfl rfl)
theorem dL_law_183 : decode cL_law 183 = .ok (.iadd, 1) := dk_96 (dk_at dksL_law_7 15 rfl rfl)
theorem dL_law_184 : decode cL_law 184 = .ok (.iaload, 1) := dk_46 (dk_at dksL_law_7 16 rfl rfl)
theorem dL_law_185 : decode cL_law 185 = .ok (.invokevirtual 37, 3) := dk_182 0 37 (dk_at dksL_law_7 17 rfl rfl)
theorem dL_law_188 : decode cL_law 188 = .ok (.if_icmp .eq 28, 3) := dk_159 0 28 (dk_at dksL_law_7 20 rfl rfl)
theorem dL_law_191 : decode cL_law 191 = .ok (.iconst 0, 1) := dk_3 (dk_at dksL_law_7 23 rfl rfl)
theorem dL_law_192 : decode cL_law 192 = .ok (.ireturn, 1) := dk_172 (dk_at dksL_law_8 0 rfl rfl)
theorem dL_law_193 : decode cL_law 193 = .ok (.aload_n 1, 1) := dk_43 (dk_at dksL_law_8 1 rfl rfl)
theorem dL_law_194 : decode cL_law 194 = .ok (.aload_n 0, 1) := dk_42 (dk_at dksL_law_8 2 rfl rfl)
theorem dL_law_195 : decode cL_law 195 = .ok (.iload_n 3, 1) := dk_29 (dk_at dksL_law_8 3 rfl rfl)
theorem dL_law_196 : decode cL_law 196 = .ok (.iconst 1, 1) := dk_4 (dk_at dksL_law_8 4 rfl rfl)
theorem dL_law_197 : decode cL_law 197 = .ok (.iadd, 1) := dk_96 (dk_at dksL_law_8 5 rfl rfl)
theorem dL_law_198 : decode cL_law 198 = .ok (.iaload, 1) := dk_46 (dk_at dksL_law_8 6 rfl rfl)
theorem dL_law_199 : decode cL_law 199 = .ok (.invokevirtual 38, 3) := dk_182 0 38 (dk_at dksL_law_8 7 rfl rfl)
theorem dL_law_202 : decode cL_law 202 = .ok (.aload_n 2, 1) := dk_44 (dk_at dksL_law_8 10 rfl rfl)
theorem dL_law_203 : decode cL_law 203 = .ok (.aload_n 0, 1) := dk_42 (dk_at dksL_law_8 11 rfl rfl)
theorem dL_law_204 : decode cL_law 204 = .ok (.iload_n 3, 1) := dk_29 (dk_at dksL_law_8 12 rfl rfl)
theorem dL_law_205 : decode cL_law 205 = .ok (.iconst 1, 1) := dk_4 (dk_at dksL_law_8 13 rfl rfl)
theorem dL_law_206 : decode cL_law 206 = .ok (.iadd, 1) := dk_96 (dk_at dksL_law_8 14 rfl rfl)
theorem dL_law_207 : decode cL_law 207 = .ok (.iaload, 1) := dk_46 (dk_at dksL_law_8 15 rfl rfl)
theorem dL_law_208 : decode cL_law 208 = .ok (.invokevirtual 41, 3) := dk_182 0 41 (dk_at dksL_law_8 16 rfl rfl)
theorem dL_law_211 : decode cL_law 211 = .ok (.if_icmp .eq 5, 3) := dk_159 0 5 (dk_at dksL_law_8 19 rfl rfl)
theorem dL_law_214 : decode cL_law 214 = .ok (.iconst 0, 1) := dk_3 (dk_at dksL_law_8 22 rfl rfl)
theorem dL_law_215 : decode cL_law 215 = .ok (.ireturn, 1) := dk_172 (dk_at dksL_law_8 23 rfl rfl)
theorem dL_law_216 : decode cL_law 216 = .ok (.iinc 3 6, 3) := dk_132 3 6 (dk_at dksL_law_9 0 rfl rfl)
theorem dL_law_219 : decode cL_law 219 = .ok (.goto (-201), 3) := dk_167 255 55 (dk_at dksL_law_9 3 rfl rfl)
theorem dL_law_222 : decode cL_law 222 = .ok (.iconst 1, 1) := dk_4 (dk_at dksL_law_9 6 rfl rfl)
theorem dL_law_223 : decode cL_law 223 = .ok (.ireturn, 1) := dk_172 (dk_at dksL_law_9 7 rfl rfl)
end
section
/-! PURE PART: the abstract state is (n, b, rd, w): size n, bytes b (each below 256), the last read's answer rd, letters w. No program in sight. -/
/-- the byte k as the machine holds it -/
def wl_B (k : Nat) : Int32 := (nI k).toInt8.toInt32
def wl_tb (b : Nat → Nat) : Nat → Int32 := fun j => wl_B (b j)
def wl_ti (b : Nat → Nat) : Nat → Int32 := fun j => nI (b j)
def wl_up (b : Nat → Nat) (k v : Nat) : Nat → Nat := fun j => if j = k then v else b j
theorem wl_up_lt {b : Nat → Nat} {k v N : Nat} (h : ∀ j, b j < N) (hv : v < N) : ∀ j, wl_up b k v j < N := by
  intro j
  unfold wl_up
  by_cases q : j = k
  · rw [if_pos q]; exact hv
  · rw [if_neg q]; exact h j
theorem wl_upB {b : Nat → Nat} {i x : Int32} {k v : Nat} (hi : i.toNatClampNeg = k) (hx : vp_nar .byte x = wl_B v) : upd (wl_tb b) i.toNatClampNeg (vp_nar .byte x) = wl_tb (wl_up b k v) := by
  funext j
  rw [hi, hx]
  show (if j = k then wl_B v else wl_B (b j)) = wl_B (if j = k then v else b j)
  by_cases q : j = k
  · rw [if_pos q, if_pos q]
  · rw [if_neg q, if_neg q]
theorem wl_upI {b : Nat → Nat} {i x : Int32} {k v : Nat} (hi : i.toNatClampNeg = k) (hx : x = nI v) : upd (wl_ti b) i.toNatClampNeg x = wl_ti (wl_up b k v) := by
  funext j
  rw [hi, hx]
  show (if j = k then nI v else nI (b j)) = nI (if j = k then v else b j)
  by_cases q : j = k
  · rw [if_pos q, if_pos q]
  · rw [if_neg q, if_neg q]
theorem wl_upC {b : Nat → Nat} {i x : Int32} {k v : Nat} (hi : i.toNatClampNeg = k) (hx : vp_nar .char x = nI v) : upd (wl_ti b) i.toNatClampNeg (vp_nar .char x) = wl_ti (wl_up b k v) := wl_upI hi hx
theorem wl_tb0 : (fun _ => 0 : Nat → Int32) = wl_tb (fun _ => 0) := by
  funext j
  show (0 : Int32) = wl_B 0
  decide
theorem wl_ti0 : (fun _ => 0 : Nat → Int32) = wl_ti (fun _ => 0) := by
  funext j
  show (0 : Int32) = nI 0
  decide
/-! numbers -/
theorem wl_bp (x : Int32) : x.toInt8.toInt32 &&& 255 = x &&& 255 := by
  apply Int32.toBitVec_inj.mp
  rw [Int32.toBitVec_and, Int32.toBitVec_and, Int8.toBitVec_toInt32, Int32.toBitVec_toInt8]
  apply BitVec.eq_of_getLsbD_eq
  intro i hi
  rw [BitVec.getLsbD_and, BitVec.getLsbD_and]
  have hm : ∀ i < 32, 8 ≤ i → (255 : Int32).toBitVec.getLsbD i = false := by decide
  rcases Nat.lt_or_ge i 8 with z | z
  · rw [BitVec.getLsbD_signExtend, BitVec.getLsbD_signExtend, if_pos z, if_pos hi]
    simp only [z, hi, decide_true, Bool.true_and]
  · rw [hm i hi z]; simp
def wl_m8 (x : Int32) : Nat := x.toBitVec.toNat % 2 ^ 8
theorem wl_m8_lt (x : Int32) : wl_m8 x < 256 := Nat.mod_lt _ (by decide)
theorem wl_and8 (x : Int32) : x &&& nI 255 = nI (wl_m8 x) := pk_and x 8 (by decide +kernel)
theorem wl_i2b (x : Int32) : x.toInt8.toInt32 = wl_B (wl_m8 x) := (sc_eq ((vp_nar_byte _).symm.trans (pk_vb x)) (wl_m8_lt x)).mpr ((wl_bp x).trans (wl_and8 x))
def wl_m31 (x : Int32) : Nat := x.toBitVec.toNat % 2 ^ 31
theorem wl_m31_lt (x : Int32) : wl_m31 x < 2 ^ 31 := Nat.mod_lt _ (by decide)
theorem wl_and31 (x : Int32) : x &&& nI 2147483647 = nI (wl_m31 x) := pk_and x 31 (by decide +kernel)
def wl_m21 (x : Int32) : Nat := x.toBitVec.toNat % 2 ^ 21
theorem wl_m21_lt (x : Int32) : wl_m21 x < 2097152 := Nat.mod_lt _ (by decide)
theorem wl_and21 (x : Int32) : x &&& nI 2097151 = nI (wl_m21 x) := pk_and x 21 (by decide +kernel)
theorem wl_rem (x : Int32) {d : Nat} (h0 : 0 < d) (hd : d < 2 ^ 31) : nI (wl_m31 x) - nI (wl_m31 x) / nI d * nI d = nI (wl_m31 x % d) := pk_rem (wl_m31_lt x) h0 hd
theorem wl_or (a b : Nat) : nI a ||| nI b = nI (a ||| b) := by
  apply Int32.toBitVec_inj.mp
  rw [Int32.toBitVec_or]
  exact BitVec.ofNat_or.symm
theorem wl_orA {a b i c : Nat} (hb : b < 2 ^ i) (hc : c * 2 ^ i = a) : nI a ||| nI b = nI (a + b) := by
  rw [wl_or, ← hc, ← Nat.shiftLeft_eq, ← Nat.shiftLeft_add_eq_or_of_lt hb]
theorem wl_shlor (cp x : Nat) (hx : x < 64) : (nI cp <<< (nI 6 &&& 31)) ||| nI x = nI (cp * 64 + x) := by
  apply Int32.toBitVec_inj.mp
  apply BitVec.eq_of_toNat_eq
  rw [Int32.toBitVec_or, BitVec.toNat_or, pk_shl _ _ 6 (by decide), pk_tn (by omega : x < 2 ^ 32)]
  show (cp % 2 ^ 32 * 2 ^ 6 % 2 ^ 32) ||| x = (cp * 64 + x) % 2 ^ 32
  have e : cp % 2 ^ 32 * 2 ^ 6 % 2 ^ 32 = (cp % 2 ^ 26) <<< 6 := by rw [Nat.shiftLeft_eq]; omega
  rw [e, ← Nat.shiftLeft_add_eq_or_of_lt (show x < 2 ^ 6 from hx), Nat.shiftLeft_eq]
  omega
theorem wl_B_lt0 : ∀ v, v < 256 → (wl_B v < 0 ↔ 128 ≤ v) := by decide +kernel
theorem wl_B_63 : ∀ v, v < 256 → wl_B v &&& nI 63 = nI (v % 64) := by decide +kernel
theorem wl_B_127 : ∀ v, v < 256 → wl_B v &&& nI 127 = nI (v % 128) := by decide +kernel
theorem wl_B_255 : ∀ v, v < 256 → wl_B v &&& nI 255 = nI v := by decide +kernel
theorem wl_B_c : ∀ v, v < 128 → ((wl_B v).toUInt32 % 65536).toInt32 = nI v := by decide +kernel
theorem wl_narB (v : Nat) : vp_nar .byte (wl_B v) = wl_B v := pk_vb (nI v)
theorem wl_narC {v : Nat} (h : v < 65536) : vp_nar .char (nI v) = nI v := Value.int.inj (pk_charN h).1
theorem wl_i2c {v : Nat} (h : v < 65536) : ((nI v).toUInt32 % 65536).toInt32 = nI v := by
  rw [pk_char, pk_tn (by omega), Nat.mod_eq_of_lt h]
theorem wl_shr {n k : Nat} (h : n < 2 ^ 31) (hs : ((nI k &&& 31).toBitVec.smod 32).toNat = k) : nI n >>> (nI k &&& 31) = nI (n / 2 ^ k) := pk_shrN h _ k hs
theorem wl_ushr {n k : Nat} (h : n < 2 ^ 32) (hs : (((nI k).toUInt32 &&& Int32.toUInt32 31).toBitVec % 32).toNat = k) : ((nI n).toUInt32 >>> ((nI k).toUInt32 &&& Int32.toUInt32 31)).toInt32 = nI (n / 2 ^ k) := pk_ushrN h _ k hs
theorem wl_shc : ∀ c, c < 6 → ((nI (6 * c) &&& 31).toBitVec.smod 32).toNat = 6 * c := by decide +kernel
/-! lay -/
def wl_layN (n v : Nat) : Nat := if v < 128 then n + 1 else if v < 2048 then n + 2 else if v < 65536 then n + 3 else n + 4
def wl_layB (n : Nat) (b : Nat → Nat) (v : Nat) : Nat → Nat :=
  if v < 128 then wl_up b n v
  else if v < 2048 then wl_up (wl_up b n (192 + v / 64)) (n + 1) (128 + v % 64)
  else if v < 65536 then wl_up (wl_up (wl_up b n (224 + v / 4096)) (n + 1) (128 + v / 64 % 64)) (n + 2) (128 + v % 64)
  else wl_up (wl_up (wl_up (wl_up b n (240 + v / 262144)) (n + 1) (128 + v / 4096 % 64)) (n + 2) (128 + v / 64 % 64)) (n + 3) (128 + v % 64)
/-- what lay does: the answer, the new size, the new bytes -/
def wl_lay (n : Nat) (b : Nat → Nat) (p : Int32) : Int32 × Nat × (Nat → Nat) := if 1020 < n then (-1, n, b) else (nI (wl_layN n (wl_m21 p)), wl_layN n (wl_m21 p), wl_layB n b (wl_m21 p))
theorem wl_layB_lt {n v : Nat} {b : Nat → Nat} (h : ∀ j, b j < 256) (hv : v < 2097152) : ∀ j, wl_layB n b v j < 256 := by
  unfold wl_layB
  split
  · exact wl_up_lt h (by omega)
  split
  · exact wl_up_lt (wl_up_lt h (by omega)) (by omega)
  split
  · exact wl_up_lt (wl_up_lt (wl_up_lt h (by omega)) (by omega)) (by omega)
  · exact wl_up_lt (wl_up_lt (wl_up_lt (wl_up_lt h (by omega)) (by omega)) (by omega)) (by omega)
theorem wl_layN_le (n v : Nat) : wl_layN n v ≤ n + 4 := by
  unfold wl_layN
  repeat' split
  all_goals omega
theorem wl_lay_ok {n : Nat} {b : Nat → Nat} {p : Int32} (hn : n ≤ 1024) (h : ∀ j, b j < 256) : (wl_lay n b p).2.1 ≤ 1024 ∧ ∀ j, (wl_lay n b p).2.2 j < 256 := by
  unfold wl_lay
  split
  · exact ⟨hn, h⟩
  · exact ⟨by have := wl_layN_le n (wl_m21 p); show wl_layN n (wl_m21 p) ≤ 1024; omega, wl_layB_lt h (wl_m21_lt p)⟩
/-- the reference's loop: c more pushes -/
def wl_push (v : Nat) : Nat → Nat → (Nat → Nat) → Nat × (Nat → Nat)
  | 0, n, b => (n, b)
  | c + 1, n, b => wl_push v c (n + 1) (wl_up b n (128 + v / 2 ^ (6 * c) % 64))
/-! spoil, cut, letter -/
def wl_spoil (n : Nat) (b : Nat → Nat) (p x : Int32) : Nat → Nat := if 0 < n then wl_up b (wl_m31 p % n) (wl_m8 x) else b
theorem wl_spoil_lt {n : Nat} {b : Nat → Nat} {p x : Int32} (h : ∀ j, b j < 256) : ∀ j, wl_spoil n b p x j < 256 := by
  unfold wl_spoil
  split
  · exact wl_up_lt h (wl_m8_lt x)
  · exact h
def wl_cut (n : Nat) (p : Int32) : Nat := wl_m31 p % (n + 1)
theorem wl_cut_le (n : Nat) (p : Int32) : wl_cut n p ≤ n := Nat.le_of_lt_succ (Nat.mod_lt _ (Nat.succ_pos n))
def wl_let (rd : Int32) (w : Nat → Nat) (p : Int32) : Int32 := if 0 < rd then nI (w (wl_m31 p % rd.toNatClampNeg)) else -1
def wl_ok (rd : Int32) : Prop := rd = -1 ∨ ∃ r : Nat, r ≤ 1024 ∧ rd = nI r
theorem wl_ok_pos {rd : Int32} (h : wl_ok rd) (h0 : 0 < rd) : ∃ r : Nat, 0 < r ∧ r ≤ 1024 ∧ rd = nI r := by
  rcases h with rfl | ⟨r, hr, rfl⟩
  · exact absurd h0 (by decide)
  · refine ⟨r, ?_, hr, rfl⟩
    rcases Nat.eq_zero_or_pos r with q | q
    · rw [q] at h0; exact absurd h0 (by decide)
    · exact q
/-! the decoder, as the reference has it -/
def wl_more (c : Nat) : Nat := if c < 128 then 0 else if 194 ≤ c ∧ c < 224 then 1 else if 224 ≤ c ∧ c < 240 then 2 else if 240 ≤ c ∧ c < 245 then 3 else 4
def wl_start (c m : Nat) : Nat := if m = 0 then c else if m = 1 then c - 192 else if m = 2 then c - 224 else c - 240
def wl_cont (b : Nat → Nat) (f : Nat) : Nat → Nat → Nat → Option Nat
  | 0, _, v => some v
  | k + 1, i, v => if b (f + i) < 128 ∨ 191 < b (f + i) then none else wl_cont b f k (i + 1) (v * 64 + b (f + i) - 128)
abbrev wl_bad (m v : Nat) : Prop := (m = 2 ∧ (v < 2048 ∨ (55296 ≤ v ∧ v < 57344))) ∨ (m = 3 ∧ (v < 65536 ∨ 1114111 < v))
def wl_step (b : Nat → Nat) (f e : Nat) : Option (Nat × Nat) :=
  if wl_more (b f) = 4 ∨ e ≤ f + wl_more (b f) then none
  else match wl_cont b f (wl_more (b f)) 1 (wl_start (b f) (wl_more (b f))) with
    | none => none
    | some v => if wl_bad (wl_more (b f)) v then none else some (wl_more (b f), v)
def wl_dec (b : Nat → Nat) (e : Nat) : Nat → Nat → Nat → (Nat → Nat) → Int32 × (Nat → Nat)
  | 0, _, j, w => (nI j, w)
  | k + 1, f, j, w =>
    if f < e then
      match wl_step b f e with
      | none => (-1, w)
      | some (m, v) =>
        if m = 3 then wl_dec b e k (f + 4) (j + 2) (wl_up (wl_up w j (55296 + (v - 65536) / 1024)) (j + 1) (56320 + v % 1024))
        else wl_dec b e k (f + m + 1) (j + 1) (wl_up w j v)
    else (nI j, w)
theorem wl_dec_done {b : Nat → Nat} {e k f j : Nat} {w : Nat → Nat} (h : e ≤ f) : wl_dec b e (k + 1) f j w = (nI j, w) := by
  rw [wl_dec, if_neg (Nat.not_lt.mpr h)]
theorem wl_dec_none {b : Nat → Nat} {e k f j : Nat} {w : Nat → Nat} (h : f < e) (hs : wl_step b f e = none) : wl_dec b e (k + 1) f j w = (-1, w) := by
  rw [wl_dec, if_pos h, hs]
theorem wl_dec_3 {b : Nat → Nat} {e k f j v : Nat} {w : Nat → Nat} (h : f < e) (hs : wl_step b f e = some (3, v)) : wl_dec b e (k + 1) f j w = wl_dec b e k (f + 4) (j + 2) (wl_up (wl_up w j (55296 + (v - 65536) / 1024)) (j + 1) (56320 + v % 1024)) := by
  rw [wl_dec, if_pos h, hs]
  rfl
theorem wl_dec_n {b : Nat → Nat} {e k f j m v : Nat} {w : Nat → Nat} (h : f < e) (hs : wl_step b f e = some (m, v)) (hm : m ≠ 3) : wl_dec b e (k + 1) f j w = wl_dec b e k (f + m + 1) (j + 1) (wl_up w j v) := by
  rw [wl_dec, if_pos h, hs]
  exact if_neg hm
theorem wl_more_le (c : Nat) : wl_more c ≤ 4 := by
  unfold wl_more
  repeat' split
  all_goals omega
theorem wl_step_far {b : Nat → Nat} {f e : Nat} (h : wl_more (b f) = 4 ∨ e ≤ f + wl_more (b f)) : wl_step b f e = none := by
  rw [wl_step, if_pos h]
theorem wl_step_cont {b : Nat → Nat} {f e : Nat} (hc : wl_cont b f (wl_more (b f)) 1 (wl_start (b f) (wl_more (b f))) = none) : wl_step b f e = none := by
  rw [wl_step, hc]
  split <;> rfl
theorem wl_step_bad {b : Nat → Nat} {f e v : Nat} (hc : wl_cont b f (wl_more (b f)) 1 (wl_start (b f) (wl_more (b f))) = some v) (hb : wl_bad (wl_more (b f)) v) : wl_step b f e = none := by
  rw [wl_step, hc]
  split
  · rfl
  · exact if_pos hb
theorem wl_step_ok {b : Nat → Nat} {f e v : Nat} (h4 : wl_more (b f) ≠ 4) (he : f + wl_more (b f) < e) (hc : wl_cont b f (wl_more (b f)) 1 (wl_start (b f) (wl_more (b f))) = some v) (hb : ¬ wl_bad (wl_more (b f)) v) : wl_step b f e = some (wl_more (b f), v) := by
  rw [wl_step, if_neg (fun q => q.elim h4 (fun q => absurd he (Nat.not_lt.mpr q))), hc]
  exact if_neg hb
theorem wl_step_some {b : Nat → Nat} {f e m v : Nat} (h : wl_step b f e = some (m, v)) : m ≤ 3 ∧ f + m < e := by
  unfold wl_step at h
  split at h
  · cases h
  · rename_i q
    split at h
    · cases h
    · split at h
      · cases h
      · have h1 := congrArg Prod.fst (Option.some.inj h)
        have h1 : wl_more (b f) = m := h1
        have := wl_more_le (b f)
        omega
theorem wl_dec_ok {b : Nat → Nat} {e : Nat} (he : e ≤ 1024) : ∀ (k f j : Nat) (w : Nat → Nat), j ≤ f → f ≤ e → wl_ok (wl_dec b e k f j w).1 := by
  intro k
  induction k with
  | zero =>
    intro f j w h1 h2
    exact Or.inr ⟨j, by omega, rfl⟩
  | succ k ih =>
    intro f j w h1 h2
    rcases Nat.lt_or_ge f e with q | q
    · rcases hs : wl_step b f e with _ | ⟨m, v⟩
      · rw [wl_dec_none q hs]; exact Or.inl rfl
      · have hm := wl_step_some hs
        by_cases h3 : m = 3
        · subst h3
          rw [wl_dec_3 q hs]
          exact ih _ _ _ (by omega) (by omega)
        · rw [wl_dec_n q hs h3]
          exact ih _ _ _ (by omega) (by omega)
    · rw [wl_dec_done q]
      exact Or.inr ⟨j, by omega, rfl⟩
/-- a read: from (at & max) % (n+1), so many bytes as (k & max) % (n - f + 1) says -/
def wl_rdF (n : Nat) (p : Int32) : Nat := wl_m31 p % (n + 1)
def wl_rdE (n : Nat) (p x : Int32) : Nat := wl_rdF n p + wl_m31 x % (n - wl_rdF n p + 1)
theorem wl_rdF_le (n : Nat) (p : Int32) : wl_rdF n p ≤ n := Nat.le_of_lt_succ (Nat.mod_lt _ (Nat.succ_pos n))
theorem wl_rdE_le (n : Nat) (p x : Int32) : wl_rdF n p ≤ wl_rdE n p x ∧ wl_rdE n p x ≤ n := by
  unfold wl_rdE
  have h1 := wl_rdF_le n p
  have h2 := Nat.mod_lt (wl_m31 x) (Nat.succ_pos (n - wl_rdF n p))
  have h2 : wl_m31 x % (n - wl_rdF n p + 1) < n - wl_rdF n p + 1 := h2
  omega
def wl_read (n : Nat) (b w : Nat → Nat) (p x : Int32) : Int32 × (Nat → Nat) := wl_dec b (wl_rdE n p x) 1025 (wl_rdF n p) 0 w
theorem wl_read_ok {n : Nat} {b w : Nat → Nat} {p x : Int32} (hn : n ≤ 1024) : wl_ok (wl_read n b w p x).1 := by
  have h1 := wl_rdE_le n p x
  exact wl_dec_ok (by omega) _ _ _ _ (Nat.zero_le _) h1.1
end
section
/-! THE LIBRARY'S TABLES, and that its automaton answers as the reference's rule (plain law) -/
/-- states: 0 CS1, 1 CS2, 2 CS3, 3 P3A, 4 P3B, 5 P4A, 6 P4B; 7 END; 8 ERR -/
def wl_trans (s h : Nat) : Nat :=
  if s = 0 then (if 8 ≤ h ∧ h < 12 then 7 else 8)
  else if s = 1 then (if 8 ≤ h ∧ h < 12 then 0 else 8)
  else if s = 2 then (if 8 ≤ h ∧ h < 12 then 1 else 8)
  else if s = 3 then (if 10 ≤ h ∧ h < 12 then 0 else 8)
  else if s = 4 then (if 8 ≤ h ∧ h < 10 then 0 else 8)
  else if s = 5 then (if 9 ≤ h ∧ h < 12 then 1 else 8)
  else if s = 6 then (if h = 8 then 1 else 8)
  else 8
def wl_sI (s : Nat) : Int32 := if s < 7 then nI (16 * s) else if s = 7 then -1 else -2
def wl_fs (j : Nat) : Nat := if j < 66 then 8 else if j < 96 then 0 else if j = 96 then 3 else if j < 109 then 1 else if j = 109 then 4 else if j < 112 then 1 else if j = 112 then 5 else if j < 116 then 2 else if j = 116 then 6 else 8
def wl_fc (j : Nat) : Nat := if wl_fs j = 8 then 16777215 else if j < 96 then j % 32 else if j < 112 then j % 16 else j % 8
def wl_fT (j : Nat) : Int32 := if wl_fs j = 8 then -2 else nI (wl_fc j * 256 + 16 * wl_fs j)
def wl_tT (k : Nat) : Int32 := wl_sI (wl_trans (k / 16) (k % 16))
theorem wl_tT_at (s h : Nat) (hh : h < 16) : wl_tT (16 * s + h) = wl_sI (wl_trans s h) := by
  unfold wl_tT
  rw [show (16 * s + h) / 16 = s by omega, show (16 * s + h) % 16 = h by omega]
theorem wl_sI_lo {s : Nat} (h : s < 7) : wl_sI s = nI (16 * s) := if_pos h
theorem wl_sI_lt : ∀ s, s < 9 → (wl_sI s < 0 ↔ 7 ≤ s) := by decide +kernel
theorem wl_sI_m2 : ∀ s, s < 9 → (wl_sI s = -2 ↔ s = 8) := by decide +kernel
theorem wl_trans_le (s h : Nat) : wl_trans s h < 9 := by
  unfold wl_trans
  repeat' split
  all_goals omega
theorem wl_fs_le (j : Nat) : wl_fs j < 9 := by
  unfold wl_fs
  repeat' split
  all_goals omega
theorem wl_fT_s : ∀ j, j < 128 → (wl_fT j).toInt8.toInt32 = wl_sI (wl_fs j) := by decide +kernel
theorem wl_fT_c : ∀ j, j < 128 → ((wl_fT j).toUInt32 >>> ((nI 8).toUInt32 &&& Int32.toUInt32 31)).toInt32 = nI (wl_fc j) := by decide +kernel
/-- the inner loop: k bytes are left at i -/
def wl_inn (b : Nat → Nat) : Nat → Nat → Nat → Nat → Option (Nat × Nat × Nat)
  | 0, i, cp, s => if 7 ≤ s then some (i, cp, s) else none
  | k + 1, i, cp, s => if 7 ≤ s then some (i, cp, s) else wl_inn b k (i + 1) (cp * 64 + b i % 64) (wl_trans s (b i / 16))
theorem wl_inn_end {b : Nat → Nat} {k i cp s : Nat} (h : 7 ≤ s) : wl_inn b k i cp s = some (i, cp, s) := by
  cases k with
  | zero => exact if_pos h
  | succ k => exact if_pos h
theorem wl_inn_0 {b : Nat → Nat} {i cp s : Nat} (h : s < 7) : wl_inn b 0 i cp s = none := if_neg (Nat.not_le.mpr h)
theorem wl_inn_s {b : Nat → Nat} {k i cp s : Nat} (h : s < 7) : wl_inn b (k + 1) i cp s = wl_inn b k (i + 1) (cp * 64 + b i % 64) (wl_trans s (b i / 16)) := if_neg (Nat.not_le.mpr h)
/-- first bytes, by their kind -/
theorem wl_c0 : ∀ c, c < 256 → 128 ≤ c → (c < 194 ∨ 245 ≤ c) → wl_fs (c % 128) = 8 ∧ wl_more c = 4 := by decide +kernel
theorem wl_c1 : ∀ c, c < 256 → 194 ≤ c → c < 224 → wl_fs (c % 128) = 0 ∧ wl_fc (c % 128) = c - 192 ∧ wl_more c = 1 := by decide +kernel
theorem wl_c2 : ∀ c, c < 256 → 224 ≤ c → c < 240 → wl_fs (c % 128) < 7 ∧ wl_fc (c % 128) = c - 224 ∧ wl_more c = 2 := by decide +kernel
theorem wl_c3 : ∀ c, c < 256 → 240 ≤ c → c < 245 → wl_fs (c % 128) < 7 ∧ wl_fc (c % 128) = c - 240 ∧ wl_more c = 3 := by decide +kernel
theorem wl_t2 : ∀ d, d < 16 → ∀ x, x < 256 → wl_trans (wl_fs ((224 + d) % 128)) (x / 16) = if (128 ≤ x ∧ x < 192) ∧ (d = 0 → 160 ≤ x) ∧ (d = 13 → x < 160) then 0 else 8 := by decide +kernel
theorem wl_t3 : ∀ d, d < 5 → ∀ x, x < 256 → wl_trans (wl_fs ((240 + d) % 128)) (x / 16) = if (128 ≤ x ∧ x < 192) ∧ (d = 0 → 144 ≤ x) ∧ (d = 4 → x < 144) then 1 else 8 := by decide +kernel
theorem wl_t0 (x : Nat) : wl_trans 0 (x / 16) = if 128 ≤ x ∧ x < 192 then 7 else 8 := by
  show (if 8 ≤ x / 16 ∧ x / 16 < 12 then 7 else 8) = _
  by_cases q : 128 ≤ x ∧ x < 192
  · rw [if_pos q, if_pos (by omega)]
  · rw [if_neg q, if_neg (by omega)]
theorem wl_t1 (x : Nat) : wl_trans 1 (x / 16) = if 128 ≤ x ∧ x < 192 then 0 else 8 := by
  show (if 8 ≤ x / 16 ∧ x / 16 < 12 then 0 else 8) = _
  by_cases q : 128 ≤ x ∧ x < 192
  · rw [if_pos q, if_pos (by omega)]
  · rw [if_neg q, if_neg (by omega)]
/-- what the automaton says of a letter at f, over what the rule says -/
def wl_says (b : Nat → Nat) (f e : Nat) (r : Option (Nat × Nat × Nat)) : Prop := match r with
  | none => wl_step b f e = none
  | some (i, cp, s) => (s = 8 ∧ wl_step b f e = none) ∨ (s = 7 ∧ ∃ m, 1 ≤ m ∧ m ≤ 3 ∧ wl_step b f e = some (m, cp) ∧ i = f + m + 1 ∧ (m = 3 ↔ 65536 ≤ cp) ∧ cp < 1114112)
theorem wl_says_8 {b : Nat → Nat} {f e k i cp : Nat} (h : wl_step b f e = none) : wl_says b f e (wl_inn b k i cp 8) := by
  rw [wl_inn_end (by decide)]
  exact Or.inl ⟨rfl, h⟩
theorem wl_says_none {b : Nat → Nat} {f e : Nat} (h : wl_step b f e = none) : wl_says b f e none := h
/-- the last byte of a letter -/
theorem wl_last {b : Nat → Nat} {f e i cp m k : Nat} (hm : 1 ≤ m ∧ m ≤ 3) (hi : i = f + m) (hk : i + k = e) (hfar : e ≤ f + m → wl_step b f e = none) (hbad : ¬ (128 ≤ b i ∧ b i < 192) → wl_step b f e = none)
    (hok : f + m < e → 128 ≤ b i → b i < 192 → wl_step b f e = some (m, cp * 64 + b i % 64) ∧ (m = 3 ↔ 65536 ≤ cp * 64 + b i % 64) ∧ cp * 64 + b i % 64 < 1114112) : wl_says b f e (wl_inn b k i cp 0) := by
  cases k with
  | zero => rw [wl_inn_0 (by decide)]; exact hfar (by omega)
  | succ k =>
    rw [wl_inn_s (by decide), wl_t0]
    by_cases q : 128 ≤ b i ∧ b i < 192
    · rw [if_pos q, wl_inn_end (by decide)]
      obtain ⟨h1, h2, h3⟩ := hok (by omega) q.1 q.2
      exact Or.inr ⟨rfl, m, hm.1, hm.2, h1, by omega, h2, h3⟩
    · rw [if_neg q]
      exact wl_says_8 (hbad q)
theorem wl_kA {b : Nat → Nat} {f k i v : Nat} : wl_cont b f (k + 1) i v = if 128 ≤ b (f + i) ∧ b (f + i) < 192 then wl_cont b f k (i + 1) (v * 64 + b (f + i) - 128) else none := by
  show (if b (f + i) < 128 ∨ 191 < b (f + i) then none else wl_cont b f k (i + 1) (v * 64 + b (f + i) - 128)) = _
  by_cases q : 128 ≤ b (f + i) ∧ b (f + i) < 192
  · rw [if_pos q, if_neg (by omega)]
  · rw [if_neg q, if_pos (by omega)]
theorem wl_k1 {b : Nat → Nat} {f v : Nat} : wl_cont b f 1 1 v = if 128 ≤ b (f + 1) ∧ b (f + 1) < 192 then some (v * 64 + b (f + 1) - 128) else none := wl_kA
theorem wl_k2 {b : Nat → Nat} {f v : Nat} : wl_cont b f 2 1 v = if 128 ≤ b (f + 1) ∧ b (f + 1) < 192 then (if 128 ≤ b (f + 2) ∧ b (f + 2) < 192 then some ((v * 64 + b (f + 1) - 128) * 64 + b (f + 2) - 128) else none) else none := by
  have h1 : wl_cont b f 2 1 v = _ := wl_kA
  have h2 : wl_cont b f 1 2 (v * 64 + b (f + 1) - 128) = _ := wl_kA
  rw [h1]
  by_cases q : 128 ≤ b (f + 1) ∧ b (f + 1) < 192
  · rw [if_pos q, if_pos q]; exact h2
  · rw [if_neg q, if_neg q]
theorem wl_k3 {b : Nat → Nat} {f v : Nat} : wl_cont b f 3 1 v = if 128 ≤ b (f + 1) ∧ b (f + 1) < 192 then (if 128 ≤ b (f + 2) ∧ b (f + 2) < 192 then (if 128 ≤ b (f + 3) ∧ b (f + 3) < 192 then some (((v * 64 + b (f + 1) - 128) * 64 + b (f + 2) - 128) * 64 + b (f + 3) - 128) else none) else none) else none := by
  have h1 : wl_cont b f 3 1 v = _ := wl_kA
  have h2 : wl_cont b f 2 2 (v * 64 + b (f + 1) - 128) = _ := wl_kA
  have h3 : wl_cont b f 1 3 ((v * 64 + b (f + 1) - 128) * 64 + b (f + 2) - 128) = _ := wl_kA
  rw [h1]
  by_cases q : 128 ≤ b (f + 1) ∧ b (f + 1) < 192
  · rw [if_pos q, if_pos q]
    refine h2.trans ?_
    by_cases q2 : 128 ≤ b (f + 2) ∧ b (f + 2) < 192
    · rw [if_pos q2, if_pos q2]; exact h3
    · rw [if_neg q2, if_neg q2]
  · rw [if_neg q, if_neg q]
theorem wl_law {b : Nat → Nat} (hb : ∀ j, b j < 256) {f e k : Nat} (hk : f + 1 + k = e) (h1 : 128 ≤ b f) : wl_says b f e (wl_inn b k (f + 1) (wl_fc (b f % 128)) (wl_fs (b f % 128))) := by
  by_cases q0 : b f < 194 ∨ 245 ≤ b f
  · obtain ⟨a1, a2⟩ := wl_c0 _ (hb f) h1 q0
    rw [a1]
    exact wl_says_8 (wl_step_far (Or.inl a2))
  by_cases q1 : b f < 224
  · obtain ⟨a1, a2, a3⟩ := wl_c1 _ (hb f) (by omega) q1
    rw [a1, a2]
    have hst : wl_start (b f) (wl_more (b f)) = b f - 192 := by rw [a3]; rfl
    refine wl_last (m := 1) (by decide) rfl hk (fun q => wl_step_far (Or.inr (by rw [a3]; exact q))) (fun q => wl_step_cont (by rw [a3, wl_k1, if_neg q])) (fun q2 q3 q4 => ?_)
    have hv : wl_cont b f (wl_more (b f)) 1 (wl_start (b f) (wl_more (b f))) = some ((b f - 192) * 64 + b (f + 1) - 128) := by
      rw [hst, a3, wl_k1, if_pos ⟨q3, q4⟩]
    have e1 : (b f - 192) * 64 + b (f + 1) % 64 = (b f - 192) * 64 + b (f + 1) - 128 := by omega
    rw [e1]
    refine ⟨?_, by omega, by omega⟩
    have hs := wl_step_ok (e := e) (by rw [a3]; decide) (by rw [a3]; exact q2) hv (by rw [a3]; omega)
    rw [a3] at hs
    exact hs
  by_cases q2 : b f < 240
  · obtain ⟨a1, a2, a3⟩ := wl_c2 _ (hb f) (by omega) q2
    rw [a2]
    have hst : wl_start (b f) (wl_more (b f)) = b f - 224 := by rw [a3]; rfl
    cases k with
    | zero => rw [wl_inn_0 a1]; exact wl_step_far (Or.inr (by rw [a3]; omega))
    | succ k =>
      have ht := wl_t2 (b f - 224) (by omega) (b (f + 1)) (hb _)
      rw [show 224 + (b f - 224) = b f by omega] at ht
      rw [wl_inn_s a1, ht]
      by_cases q3 : 128 ≤ b (f + 1) ∧ b (f + 1) < 192
      · by_cases q4 : (b f - 224 = 0 → 160 ≤ b (f + 1)) ∧ (b f - 224 = 13 → b (f + 1) < 160)
        · rw [if_pos ⟨q3, q4⟩]
          refine wl_last (m := 2) (by decide) rfl (by omega) (fun q => wl_step_far (Or.inr (by rw [a3]; exact q))) (fun q => wl_step_cont (by rw [a3, wl_k2, if_pos q3, if_neg q])) (fun q5 q6 q7 => ?_)
          have q6 : 128 ≤ b (f + 2) := q6
          have q7 : b (f + 2) < 192 := q7
          have hv : wl_cont b f (wl_more (b f)) 1 (wl_start (b f) (wl_more (b f))) = some (((b f - 224) * 64 + b (f + 1) - 128) * 64 + b (f + 2) - 128) := by
            rw [hst, a3, wl_k2, if_pos q3, if_pos ⟨q6, q7⟩]
          show wl_step b f e = some (2, ((b f - 224) * 64 + b (f + 1) % 64) * 64 + b (f + 2) % 64) ∧ (2 = 3 ↔ 65536 ≤ ((b f - 224) * 64 + b (f + 1) % 64) * 64 + b (f + 2) % 64) ∧ ((b f - 224) * 64 + b (f + 1) % 64) * 64 + b (f + 2) % 64 < 1114112
          have e1 : ((b f - 224) * 64 + b (f + 1) % 64) * 64 + b (f + 2) % 64 = ((b f - 224) * 64 + b (f + 1) - 128) * 64 + b (f + 2) - 128 := by omega
          rw [e1]
          refine ⟨?_, by omega, by omega⟩
          have hs := wl_step_ok (e := e) (by rw [a3]; decide) (by rw [a3]; exact q5) hv (by rw [a3]; omega)
          rw [a3] at hs
          exact hs
        · rw [if_neg (fun q => q4 q.2)]
          refine wl_says_8 ?_
          by_cases q5 : 128 ≤ b (f + 2) ∧ b (f + 2) < 192
          · have hv : wl_cont b f (wl_more (b f)) 1 (wl_start (b f) (wl_more (b f))) = some (((b f - 224) * 64 + b (f + 1) - 128) * 64 + b (f + 2) - 128) := by
              rw [hst, a3, wl_k2, if_pos q3, if_pos q5]
            exact wl_step_bad hv (by rw [a3]; omega)
          · exact wl_step_cont (by rw [a3, wl_k2, if_pos q3, if_neg q5])
      · rw [if_neg (fun q => q3 q.1)]
        exact wl_says_8 (wl_step_cont (by rw [a3, wl_k2, if_neg q3]))
  · have q2' : 240 ≤ b f ∧ b f < 245 := by omega
    obtain ⟨a1, a2, a3⟩ := wl_c3 _ (hb f) q2'.1 q2'.2
    rw [a2]
    have hst : wl_start (b f) (wl_more (b f)) = b f - 240 := by rw [a3]; rfl
    cases k with
    | zero => rw [wl_inn_0 a1]; exact wl_step_far (Or.inr (by rw [a3]; omega))
    | succ k =>
      have ht := wl_t3 (b f - 240) (by omega) (b (f + 1)) (hb _)
      rw [show 240 + (b f - 240) = b f by omega] at ht
      rw [wl_inn_s a1, ht]
      by_cases q3 : 128 ≤ b (f + 1) ∧ b (f + 1) < 192
      · by_cases q4 : (b f - 240 = 0 → 144 ≤ b (f + 1)) ∧ (b f - 240 = 4 → b (f + 1) < 144)
        · rw [if_pos ⟨q3, q4⟩]
          cases k with
          | zero => rw [wl_inn_0 (by decide)]; exact wl_step_far (Or.inr (by rw [a3]; omega))
          | succ k =>
            rw [wl_inn_s (by decide), wl_t1]
            by_cases q5 : 128 ≤ b (f + 1 + 1) ∧ b (f + 1 + 1) < 192
            · have q5' : 128 ≤ b (f + 2) ∧ b (f + 2) < 192 := q5
              rw [if_pos q5]
              refine wl_last (m := 3) (by decide) rfl (by omega) (fun q => wl_step_far (Or.inr (by rw [a3]; exact q))) (fun q => wl_step_cont (by rw [a3, wl_k3, if_pos q3, if_pos q5', if_neg q])) (fun q6 q7 q8 => ?_)
              have q7 : 128 ≤ b (f + 3) := q7
              have q8 : b (f + 3) < 192 := q8
              have hv : wl_cont b f (wl_more (b f)) 1 (wl_start (b f) (wl_more (b f))) = some ((((b f - 240) * 64 + b (f + 1) - 128) * 64 + b (f + 2) - 128) * 64 + b (f + 3) - 128) := by
                rw [hst, a3, wl_k3, if_pos q3, if_pos q5', if_pos ⟨q7, q8⟩]
              show wl_step b f e = some (3, (((b f - 240) * 64 + b (f + 1) % 64) * 64 + b (f + 2) % 64) * 64 + b (f + 3) % 64) ∧ (3 = 3 ↔ 65536 ≤ (((b f - 240) * 64 + b (f + 1) % 64) * 64 + b (f + 2) % 64) * 64 + b (f + 3) % 64) ∧ (((b f - 240) * 64 + b (f + 1) % 64) * 64 + b (f + 2) % 64) * 64 + b (f + 3) % 64 < 1114112
              have e1 : (((b f - 240) * 64 + b (f + 1) % 64) * 64 + b (f + 2) % 64) * 64 + b (f + 3) % 64 = (((b f - 240) * 64 + b (f + 1) - 128) * 64 + b (f + 2) - 128) * 64 + b (f + 3) - 128 := by omega
              rw [e1]
              refine ⟨?_, by omega, by omega⟩
              have hs := wl_step_ok (e := e) (by rw [a3]; decide) (by rw [a3]; exact q6) hv (by rw [a3]; omega)
              rw [a3] at hs
              exact hs
            · rw [if_neg q5]
              exact wl_says_8 (wl_step_cont (by rw [a3, wl_k3, if_pos q3, if_neg q5]))
        · rw [if_neg (fun q => q4 q.2)]
          refine wl_says_8 ?_
          by_cases q5 : 128 ≤ b (f + 2) ∧ b (f + 2) < 192
          · by_cases q6 : 128 ≤ b (f + 3) ∧ b (f + 3) < 192
            · have hv : wl_cont b f (wl_more (b f)) 1 (wl_start (b f) (wl_more (b f))) = some ((((b f - 240) * 64 + b (f + 1) - 128) * 64 + b (f + 2) - 128) * 64 + b (f + 3) - 128) := by
                rw [hst, a3, wl_k3, if_pos q3, if_pos q5, if_pos q6]
              exact wl_step_bad hv (by rw [a3]; omega)
            · exact wl_step_cont (by rw [a3, wl_k3, if_pos q3, if_pos q5, if_neg q6])
          · exact wl_step_cont (by rw [a3, wl_k3, if_pos q3, if_neg q5])
      · rw [if_neg (fun q => q3 q.1)]
        exact wl_says_8 (wl_step_cont (by rw [a3, wl_k3, if_neg q3]))
/-- what the reference's number is below -/
theorem wl_cont_lt {b : Nat → Nat} (hb : ∀ j, b j < 256) {f v : Nat} (h4 : wl_more (b f) ≠ 4) (h : wl_cont b f (wl_more (b f)) 1 (wl_start (b f) (wl_more (b f))) = some v) : v < 2097152 ∧ (wl_more (b f) ≠ 3 → v < 65536) := by
  have hc := hb f
  by_cases q0 : b f < 128
  · have a3 : wl_more (b f) = 0 := if_pos q0
    rw [a3] at h
    have h : b f = v := Option.some.inj h
    omega
  by_cases q0' : b f < 194 ∨ 245 ≤ b f
  · exact absurd (wl_c0 _ hc (by omega) q0').2 h4
  by_cases q1 : b f < 224
  · obtain ⟨-, -, a3⟩ := wl_c1 _ hc (by omega) q1
    rw [a3, wl_k1] at h
    split at h
    · have h : (b f - 192) * 64 + b (f + 1) - 128 = v := Option.some.inj h
      omega
    · cases h
  by_cases q2 : b f < 240
  · obtain ⟨-, -, a3⟩ := wl_c2 _ hc (by omega) q2
    rw [a3, wl_k2] at h
    split at h
    · split at h
      · have h : ((b f - 224) * 64 + b (f + 1) - 128) * 64 + b (f + 2) - 128 = v := Option.some.inj h
        omega
      · cases h
    · cases h
  · obtain ⟨-, -, a3⟩ := wl_c3 _ hc (by omega) (by omega)
    rw [a3, wl_k3] at h
    split at h
    · split at h
      · split at h
        · have h : (((b f - 240) * 64 + b (f + 1) - 128) * 64 + b (f + 2) - 128) * 64 + b (f + 3) - 128 = v := Option.some.inj h
          omega
        · cases h
      · cases h
    · cases h
end
section
/-! ROWS over the kit's: numbers named as naturals -/
section WLR
variable {p : Program} {l : Launch} {e : Env} {R : Room} {s : State} {m : MethodId} {args : Array Value} {below : List Frame} {meth : Method} {c : Code} {H : Heap} {locs : List Loc} {cells slots : Nat} {Q : State → Prop}
variable {cc : ByteArray} {pc : Nat} {ls : Array Slot} {rest : List Value}
/-- the number on top, in another form -/
theorem wl_e {x y : Int32} (h : x = y) (k : W p l e R s m args below meth c H locs cells slots Q (F0 m pc ls (.int y :: rest))) : W p l e R s m args below meth c H locs cells slots Q (F0 m pc ls (.int x :: rest)) := by
  rw [h]; exact k
theorem wl_jge (hx : p.tables.exec = Jvm.exec) (hb : c.code = cc) {u v : Nat} {off : Int} {tgt : Nat} (hdg : decode cc pc = .ok (.if_icmp .ge off, 3)) (ht : (pc : Int) + off = (tgt : Int)) (hu : u < 2 ^ 31) (hv : v < 2 ^ 31)
    (kt : v ≤ u → W p l e R s m args below meth c H locs cells slots Q (F0 m tgt ls rest)) (kf : u < v → W p l e R s m args below meth c H locs cells slots Q (F0 m (pc + 3) ls rest)) : W p l e R s m args below meth c H locs cells slots Q (F0 m pc ls (.int (nI v) :: .int (nI u) :: rest)) :=
  lv_icmp_ge hx hb hdg ht (fun q => kt ((nI_leI hv hu).mp q)) (fun q => kf (Nat.not_le.mp (fun z => q ((nI_leI hv hu).mpr z))))
theorem wl_jle (hx : p.tables.exec = Jvm.exec) (hb : c.code = cc) {u v : Nat} {off : Int} {tgt : Nat} (hdg : decode cc pc = .ok (.if_icmp .le off, 3)) (ht : (pc : Int) + off = (tgt : Int)) (hu : u < 2 ^ 31) (hv : v < 2 ^ 31)
    (kt : u ≤ v → W p l e R s m args below meth c H locs cells slots Q (F0 m tgt ls rest)) (kf : v < u → W p l e R s m args below meth c H locs cells slots Q (F0 m (pc + 3) ls rest)) : W p l e R s m args below meth c H locs cells slots Q (F0 m pc ls (.int (nI v) :: .int (nI u) :: rest)) :=
  lv_icmp_le hx hb hdg ht (fun q => kt ((nI_leI hu hv).mp q)) (fun q => kf (Nat.not_le.mp (fun z => q ((nI_leI hu hv).mpr z))))
theorem wl_jlt (hx : p.tables.exec = Jvm.exec) (hb : c.code = cc) {u v : Nat} {off : Int} {tgt : Nat} (hdg : decode cc pc = .ok (.if_icmp .lt off, 3)) (ht : (pc : Int) + off = (tgt : Int)) (hu : u < 2 ^ 31) (hv : v < 2 ^ 31)
    (kt : u < v → W p l e R s m args below meth c H locs cells slots Q (F0 m tgt ls rest)) (kf : v ≤ u → W p l e R s m args below meth c H locs cells slots Q (F0 m (pc + 3) ls rest)) : W p l e R s m args below meth c H locs cells slots Q (F0 m pc ls (.int (nI v) :: .int (nI u) :: rest)) :=
  lv_icmp_lt hx hb hdg ht (fun q => kt ((nI_ltI hu hv).mp q)) (fun q => kf (Nat.not_lt.mp (fun z => q ((nI_ltI hu hv).mpr z))))
theorem wl_jgt (hx : p.tables.exec = Jvm.exec) (hb : c.code = cc) {u v : Nat} {off : Int} {tgt : Nat} (hdg : decode cc pc = .ok (.if_icmp .gt off, 3)) (ht : (pc : Int) + off = (tgt : Int)) (hu : u < 2 ^ 31) (hv : v < 2 ^ 31)
    (kt : v < u → W p l e R s m args below meth c H locs cells slots Q (F0 m tgt ls rest)) (kf : u ≤ v → W p l e R s m args below meth c H locs cells slots Q (F0 m (pc + 3) ls rest)) : W p l e R s m args below meth c H locs cells slots Q (F0 m pc ls (.int (nI v) :: .int (nI u) :: rest)) :=
  lv_icmp_gt hx hb hdg ht (fun q => kt ((nI_ltI hv hu).mp q)) (fun q => kf (Nat.not_lt.mp (fun z => q ((nI_ltI hv hu).mpr z))))
theorem wl_jne (hx : p.tables.exec = Jvm.exec) (hb : c.code = cc) {u v : Nat} {off : Int} {tgt : Nat} (hdg : decode cc pc = .ok (.if_icmp .ne off, 3)) (ht : (pc : Int) + off = (tgt : Int)) (hu : u < 2 ^ 31) (hv : v < 2 ^ 31)
    (kt : u ≠ v → W p l e R s m args below meth c H locs cells slots Q (F0 m tgt ls rest)) (kf : u = v → W p l e R s m args below meth c H locs cells slots Q (F0 m (pc + 3) ls rest)) : W p l e R s m args below meth c H locs cells slots Q (F0 m pc ls (.int (nI v) :: .int (nI u) :: rest)) :=
  lv_icmp_ne hx hb hdg ht (fun q => kt (fun z => q ((nI_eq hu hv).mpr z))) (fun q => kf ((nI_eq hu hv).mp q))
theorem wl_jz (hx : p.tables.exec = Jvm.exec) (hb : c.code = cc) {u : Nat} {off : Int} {tgt : Nat} (hdg : decode cc pc = .ok (.ifCond .ne off, 3)) (ht : (pc : Int) + off = (tgt : Int)) (hu : u < 2 ^ 31)
    (kt : u ≠ 0 → W p l e R s m args below meth c H locs cells slots Q (F0 m tgt ls rest)) (kf : u = 0 → W p l e R s m args below meth c H locs cells slots Q (F0 m (pc + 3) ls rest)) : W p l e R s m args below meth c H locs cells slots Q (F0 m pc ls (.int (nI u) :: rest)) :=
  lv_if_ne hx hb hdg ht (fun q => kt (fun z => q (by rw [z]; exact nI_0))) (fun q => kf ((nI_eq hu (by decide)).mp (q.trans nI_0.symm)))
/-- a natural isn't negative -/
theorem wl_jpos (hx : p.tables.exec = Jvm.exec) (hb : c.code = cc) {u : Nat} {off : Int} {tgt : Nat} (hdg : decode cc pc = .ok (.ifCond .lt off, 3)) (ht : (pc : Int) + off = (tgt : Int)) (hu : u < 2 ^ 31)
    (kf : W p l e R s m args below meth c H locs cells slots Q (F0 m (pc + 3) ls rest)) : W p l e R s m args below meth c H locs cells slots Q (F0 m pc ls (.int (nI u) :: rest)) :=
  lv_if_lt hx hb hdg ht (fun q => absurd q (nI_pos hu)) (fun _ => kf)
variable {D : va_G} {cl : List vw_C} {ws : va_W} {tys : List (ClassId × FieldType)} {a : Nat} {A : Nat → Prop} {H0 : Heap}
theorem wl_bast (hexec : p.tables.exec = Jvm.exec) (hb : c.code = cc) (hK : va_K D cl tys s) (hP : va_P D cl ws H) (hD : va_D A ws) (hS : va_S A H0 H locs) (q0 t0 : Nat) {cA : ClassId} {n : Nat} {f : Nat → Int32} (ha : ws[q0]? = some (a, .inl (cA, n, .inl f))) (ht : tys[t0]? = some (cA, .byte)) {i : Int32} {x : Int32} (hin : vp_in i n) (hdg : decode cc pc = .ok (.bastore, 1)) {F : Nat → Int32} (hF : upd f i.toNatClampNeg (vp_nar .byte x) = F)
    (kk : ∀ (H1 : Heap) (locs1 : List Loc), va_P D cl (ws.set q0 (a, .inl (cA, n, .inl F))) H1 → va_D A (ws.set q0 (a, .inl (cA, n, .inl F))) → va_S A H0 H1 locs1 → W p l e R s m args below meth c H1 locs1 cells slots Q (F0 m (pc + 1) ls rest)) : W p l e R s m args below meth c H locs cells slots Q (F0 m pc ls (.int x :: .int i :: .ref a :: rest)) := by
  subst hF
  exact va_bast hexec hb hK hP hD hS q0 t0 ha ht hin hdg kk
theorem wl_cast (hexec : p.tables.exec = Jvm.exec) (hb : c.code = cc) (hK : va_K D cl tys s) (hP : va_P D cl ws H) (hD : va_D A ws) (hS : va_S A H0 H locs) (q0 t0 : Nat) {cA : ClassId} {n : Nat} {f : Nat → Int32} (ha : ws[q0]? = some (a, .inl (cA, n, .inl f))) (ht : tys[t0]? = some (cA, .char)) {i : Int32} {x : Int32} (hin : vp_in i n) (hdg : decode cc pc = .ok (.castore, 1)) {F : Nat → Int32} (hF : upd f i.toNatClampNeg (vp_nar .char x) = F)
    (kk : ∀ (H1 : Heap) (locs1 : List Loc), va_P D cl (ws.set q0 (a, .inl (cA, n, .inl F))) H1 → va_D A (ws.set q0 (a, .inl (cA, n, .inl F))) → va_S A H0 H1 locs1 → W p l e R s m args below meth c H1 locs1 cells slots Q (F0 m (pc + 1) ls rest)) : W p l e R s m args below meth c H locs cells slots Q (F0 m pc ls (.int x :: .int i :: .ref a :: rest)) := by
  subst hF
  exact va_cast hexec hb hK hP hD hS q0 t0 ha ht hin hdg kk
theorem wl_iast (hexec : p.tables.exec = Jvm.exec) (hb : c.code = cc) (hK : va_K D cl tys s) (hP : va_P D cl ws H) (hD : va_D A ws) (hS : va_S A H0 H locs) (q0 t0 : Nat) {cA : ClassId} {n : Nat} {f : Nat → Int32} (ha : ws[q0]? = some (a, .inl (cA, n, .inl f))) (ht : tys[t0]? = some (cA, .int)) {i : Int32} {x : Int32} (hin : vp_in i n) (hdg : decode cc pc = .ok (.iastore, 1)) {F : Nat → Int32} (hF : upd f i.toNatClampNeg x = F)
    (kk : ∀ (H1 : Heap) (locs1 : List Loc), va_P D cl (ws.set q0 (a, .inl (cA, n, .inl F))) H1 → va_D A (ws.set q0 (a, .inl (cA, n, .inl F))) → va_S A H0 H1 locs1 → W p l e R s m args below meth c H1 locs1 cells slots Q (F0 m (pc + 1) ls rest)) : W p l e R s m args below meth c H locs cells slots Q (F0 m pc ls (.int x :: .int i :: .ref a :: rest)) := by
  subst hF
  exact va_iast hexec hb hK hP hD hS q0 t0 ha ht hin hdg kk
end WLR
theorem wl_tbA {b : Nat → Nat} {k : Nat} (h : k < 2 ^ 31) : wl_tb b (nI k).toNatClampNeg = wl_B (b k) := by
  rw [nI_clamp h]; rfl
theorem wl_tiA {b : Nat → Nat} {k : Nat} (h : k < 2 ^ 31) : wl_ti b (nI k).toNatClampNeg = nI (b k) := by
  rw [nI_clamp h]; rfl
/-! the library's two static tables, at t1 and t2, out of A's reach -/
def wl_St (t1 t2 : Nat) (A : Nat → Prop) (U : State) (H : Heap) : Prop := va_Z "UTF8" "firstUnitTable" "[S" (.ref t1) A U H ∧ va_T .short t1 128 (fun j => .int (wl_fT j)) A U H ∧ va_Z "UTF8" "transitionTable" "[B" (.ref t2) A U H ∧ va_T .byte t2 112 (fun j => .int (wl_tT j)) A U H
theorem wl_St.moved {t1 t2 : Nat} {A : Nat → Prop} {u U : State} {H : Heap} (hvm : u.vm.Alike U.vm) (h : wl_St t1 t2 A u H) : wl_St t1 t2 A U H := ⟨h.1.moved hvm, h.2.1.moved hvm, h.2.2.1.moved hvm, h.2.2.2.moved hvm⟩
theorem wl_St.kept {t1 t2 : Nat} {A : Nat → Prop} {U : State} {H H1 : Heap} (h : wl_St t1 t2 A U H) (hq : ∀ a : Nat, a < H.size → ¬ A a → H1[a]? = H[a]?) : wl_St t1 t2 A U H1 := ⟨h.1.kept hq, h.2.1.kept hq, h.2.2.1.kept hq, h.2.2.2.kept hq⟩
theorem wl_St.narrow {t1 t2 : Nat} {A B : Nat → Prop} {U : State} {H : Heap} (h : wl_St t1 t2 A U H) (hAB : ∀ q, B q → A q) : wl_St t1 t2 B U H := ⟨h.1.narrow hAB, h.2.1.narrow hAB, h.2.2.1.narrow hAB, h.2.2.2.narrow hAB⟩
/-! the two worlds: an object and its two arrays -/
abbrev vwCl : List vw_C := [(RX0, TX0, 4), (RX1, TX1, 4)]
abbrev wl_S : Type := Nat × (Nat → Nat) × Int32 × (Nat → Nat)
abbrev wX0 (h0 h1 h2 : Nat) (cB cC : ClassId) (n : Nat) (b : Nat → Nat) (rd : Int32) (w : Nat → Nat) : va_W := [(h0, .inr (0, [.ref h1, .ref h2, .int (nI n), .int rd])), (h1, .inl (cB, 1024, .inl (wl_tb b))), (h2, .inl (cC, 1024, .inl (wl_ti w)))]
abbrev wX1 (h0 h1 h2 : Nat) (cB cC : ClassId) (n : Nat) (b : Nat → Nat) (rd : Int32) (w : Nat → Nat) : va_W := [(h0, .inr (1, [.ref h1, .ref h2, .int (nI n), .int rd])), (h1, .inl (cB, 1024, .inl (wl_ti b))), (h2, .inl (cC, 1024, .inl (wl_ti w)))]
abbrev wX2 (h1 h2 : Nat) (cB cC : ClassId) (b w : Nat → Nat) : va_W := [(h1, .inl (cB, 1024, .inl (wl_tb b))), (h2, .inl (cC, 1024, .inl (wl_ti w)))]
abbrev BX0 (dC : Nat → ClassId) (dI : Nat → Nat → Nat) (A : Nat → Prop) (h0 h1 h2 : Nat) (cB cC : ClassId) (u : wl_S) (t : State) : Prop := va_P (dC, dI) vwCl (wX0 h0 h1 h2 cB cC u.1 u.2.1 u.2.2.1 u.2.2.2) t.heap ∧ va_D A (wX0 h0 h1 h2 cB cC u.1 u.2.1 u.2.2.1 u.2.2.2)
abbrev BX1 (dC : Nat → ClassId) (dI : Nat → Nat → Nat) (A : Nat → Prop) (h0 h1 h2 : Nat) (cB cC : ClassId) (u : wl_S) (t : State) : Prop := va_P (dC, dI) vwCl (wX1 h0 h1 h2 cB cC u.1 u.2.1 u.2.2.1 u.2.2.2) t.heap ∧ va_D A (wX1 h0 h1 h2 cB cC u.1 u.2.1 u.2.2.1 u.2.2.2)
abbrev BX2 (dC : Nat → ClassId) (dI : Nat → Nat → Nat) (A : Nat → Prop) (h1 h2 : Nat) (cB cC : ClassId) (b : Nat → Nat) (u : Nat → Nat) (t : State) : Prop := va_P (dC, dI) vwCl (wX2 h1 h2 cB cC b u) t.heap ∧ va_D A (wX2 h1 h2 cB cC b u)
/-- a new object with its new arrays: u says where they lie and which classes the arrays are of -/
abbrev BI0 (dC : Nat → ClassId) (dI : Nat → Nat → Nat) (A : Nat → Prop) (h0 : Nat) (u : Nat × Nat × ClassId × ClassId) (t : State) : Prop := va_P (dC, dI) vwCl (wX0 h0 u.1 u.2.1 u.2.2.1 u.2.2.2 0 (fun _ => 0) (nI 0) (fun _ => 0)) t.heap ∧ va_K (dC, dI) vwCl [(u.2.2.1, .byte), (u.2.2.2, .char)] t ∧ va_D A (wX0 h0 u.1 u.2.1 u.2.2.1 u.2.2.2 0 (fun _ => 0) (nI 0) (fun _ => 0))
abbrev BI1 (dC : Nat → ClassId) (dI : Nat → Nat → Nat) (A : Nat → Prop) (h0 : Nat) (u : Nat × Nat × ClassId × ClassId) (t : State) : Prop := va_P (dC, dI) vwCl (wX1 h0 u.1 u.2.1 u.2.2.1 u.2.2.2 0 (fun _ => 0) (nI 0) (fun _ => 0)) t.heap ∧ va_K (dC, dI) vwCl [(u.2.2.1, .int), (u.2.2.2, .int)] t ∧ va_D A (wX1 h0 u.1 u.2.1 u.2.2.1 u.2.2.2 0 (fun _ => 0) (nI 0) (fun _ => 0))
end
section
/-! WireLetters: contracts of its methods but read -/
abbrev wsX0_init : List Cond := ws_ yX0_init cX0_init 1 none
set_option maxHeartbeats 4000000 in
set_option maxRecDepth 100000 in
/-- a new object: two new arrays of 1024 places -/
theorem metX0_init (l : Launch) (dC : Nat → ClassId) (dI : Nat → Nat → Nat) (h0 : Nat) (sz : Nat) : Met l yX0_init wsX0_init ({ frames := 1, cells := 2, slots := 2048, locals := 12 }) (va_Pc [.ref h0] (fun U => U.heap.size = sz ∧ va_P (dC, dI) vwCl [(h0, .inr (0, [.null, .null, .int 0, .int 0]))] U.heap ∧ va_K (dC, dI) vwCl [] U ∧ va_D (fun _ => True) [(h0, .inr (0, [.null, .null, .int 0, .int 0]))])) (va_Qv (fun (u : Nat × Nat × ClassId × ClassId) => True) (BI0 dC dI (va_A [(h0, .inr (0, [.null, .null, .int 0, .int 0]))] sz) h0) (va_A [(h0, .inr (0, [.null, .null, .int 0, .int 0]))] sz)) 2 2048 (va_A [(h0, .inr (0, [.null, .null, .int 0, .int 0]))] sz) := by
  refine Met.ofW (cc := cX0_init) (maxL := 1) (ret := none) (by decide) rfl ?_
  intro p e s m args below meth c s₁ B hml hv
  obtain ⟨rfl, hsz, hP, hK, hD0⟩ := hv
  have hx := B.exec
  have hb := B.bytes
  have hr := B.returns
  have hts := atoms_spec (ws := wsX0_init) B.pre
  have hts : ∀ w ∈ lw_all, w.before _ s = true := fun w h => hts w (List.mem_cons_of_mem _ h)
  have hown : s.vm.findClass RX0 = some m.cls := findClass_of_methodNamed B.named
  have hlocks := B.notSynchronized
  have hin : meth.name = "<init>" := (name_of_methodNamed B.named B.method).1
  subst hsz
  have hD := hD0.self (sz := s.heap.size)
  generalize hAe : va_A [(h0, .inr (0, [.null, .null, .int 0, .int 0]))] s.heap.size = A at hD ⊢
  have hA : ∀ q : Nat, s.heap.size ≤ q → A q := fun q h => by rw [← hAe]; exact Or.inr h
  have hS : va_S A s.heap s.heap [] := va_S.rf
  have hP : va_P (dC, dI) vwCl [(h0, .inr (0, [.null, .null, .int 0, .int 0]))] s.heap := hP
  have hD : va_D A [(h0, .inr (0, [.null, .null, .int 0, .int 0]))] := hD
  have hl := lv_entry ([.ref h0]) (n := 1) (Nat.le_of_ble_eq_true rfl)
  rw [lg_entry_eq]
  generalize (lg_sl ([.ref h0]) ++ List.replicate (1 - (lg_sl ([.ref h0])).length) Slot.unset).toArray = ls at hl ⊢
  have hl : lv_has ls 1 [(0, .ref h0)] := hl
  refine lv_aload_n hx hb dX0_init_0 rfl (lv_at hl 0 rfl) ?_
  refine W.objInit hx hb hown (hts _ q10) (hts _ q11) (hts _ q12) rfl (by rw [hml]; exact hl.1) rfl dX0_init_1 (Nat.le_of_ble_eq_true rfl) (Nat.le_of_ble_eq_true rfl) ?_
  refine W.eq (g2 := F0 m 4 ls []) rfl ?_
  refine lv_aload_n hx hb dX0_init_4 rfl (lv_at hl 0 rfl) ?_
  refine lv_sipush (v := nI 1024) hx hb dX0_init_5 (by decide) ?_
  refine va_newa (atype := .byte) (ty := .byte) (a0 := (1024, .inl (wl_tb (fun _ => 0)))) (N' := 1024) hx hb (hts _ q26) rfl hK hP hD hS hA (fun cA => by rw [← wl_tb0]; rfl) (by decide) (by decide) (Nat.le_of_ble_eq_true rfl) (Nat.le_of_ble_eq_true rfl) (Nat.le_of_ble_eq_true rfl) dX0_init_8 (fun h1 cB H hK hP hD hS => ?_)
  have hP : va_P (dC, dI) vwCl [(h0, .inr (0, [.null, .null, .int 0, .int 0])), (h1, .inl (cB, 1024, .inl (wl_tb (fun _ => 0))))] H := hP
  have hD : va_D A [(h0, .inr (0, [.null, .null, .int 0, .int 0])), (h1, .inl (cB, 1024, .inl (wl_tb (fun _ => 0))))] := hD
  have hK : va_K (dC, dI) vwCl [(cB, .byte)] s := hK
  refine W.widen (k := 1) (n := 1024) (Nat.le_of_ble_eq_true rfl) (Nat.le_of_ble_eq_true rfl) ?_
  refine va_putF (D := (dC, dI)) (ci := 0) (v := .ref h1) (ty := .array .byte) (C := RX0) (T := TX0) (N := 4) hx hb hts in_X0 tyX0 tyX0_ok nmX0 hown hK hP hD hS 0 rfl rfl 0 (by decide) (hts _ q13) (fun _ h9 => h9) rfl hin rfl (by decide +kernel) rfl rfl (Nat.le_of_ble_eq_true rfl) dX0_init_10 (fun H locs hP hD hS => ?_)
  have hP : va_P (dC, dI) vwCl [(h0, .inr (0, [.ref h1, .null, .int 0, .int 0])), (h1, .inl (cB, 1024, .inl (wl_tb (fun _ => 0))))] H := hP
  have hD : va_D A [(h0, .inr (0, [.ref h1, .null, .int 0, .int 0])), (h1, .inl (cB, 1024, .inl (wl_tb (fun _ => 0))))] := hD
  refine lv_aload_n hx hb dX0_init_13 rfl (lv_at hl 0 rfl) ?_
  refine lv_sipush (v := nI 1024) hx hb dX0_init_14 (by decide) ?_
  refine va_newa (atype := .char) (ty := .char) (a0 := (1024, .inl (wl_ti (fun _ => 0)))) (N' := 1024) hx hb (hts _ q27) rfl hK hP hD hS hA (fun cA => by rw [← wl_ti0]; rfl) (by decide) (by decide) (Nat.le_of_ble_eq_true rfl) (Nat.le_of_ble_eq_true rfl) (Nat.le_of_ble_eq_true rfl) dX0_init_17 (fun h2 cC H hK hP hD hS => ?_)
  have hP : va_P (dC, dI) vwCl [(h0, .inr (0, [.ref h1, .null, .int 0, .int 0])), (h1, .inl (cB, 1024, .inl (wl_tb (fun _ => 0)))), (h2, .inl (cC, 1024, .inl (wl_ti (fun _ => 0))))] H := hP
  have hD : va_D A [(h0, .inr (0, [.ref h1, .null, .int 0, .int 0])), (h1, .inl (cB, 1024, .inl (wl_tb (fun _ => 0)))), (h2, .inl (cC, 1024, .inl (wl_ti (fun _ => 0))))] := hD
  have hK : va_K (dC, dI) vwCl [(cB, .byte), (cC, .char)] s := hK
  refine W.widen (k := 2) (n := 2048) (Nat.le_of_ble_eq_true rfl) (Nat.le_of_ble_eq_true rfl) ?_
  refine va_putF (D := (dC, dI)) (ci := 0) (v := .ref h2) (ty := .array .char) (C := RX0) (T := TX0) (N := 4) hx hb hts in_X0 tyX0 tyX0_ok nmX0 hown hK hP hD hS 0 rfl rfl 1 (by decide) (hts _ q14) (fun _ h9 => h9) rfl hin rfl (by decide +kernel) rfl rfl (Nat.le_of_ble_eq_true rfl) dX0_init_19 (fun H locs hP hD hS => ?_)
  have hP : va_P (dC, dI) vwCl [(h0, .inr (0, [.ref h1, .ref h2, .int 0, .int 0])), (h1, .inl (cB, 1024, .inl (wl_tb (fun _ => 0)))), (h2, .inl (cC, 1024, .inl (wl_ti (fun _ => 0))))] H := hP
  have hD : va_D A [(h0, .inr (0, [.ref h1, .ref h2, .int 0, .int 0])), (h1, .inl (cB, 1024, .inl (wl_tb (fun _ => 0)))), (h2, .inl (cC, 1024, .inl (wl_ti (fun _ => 0))))] := hD
  exact W.vret hx hb hr (fun t ht hW => ⟨⟨(h1, h2, cB, cC), rfl, trivial, by rw [ht]; exact hP, va_K.moved hW.alike hK, hD⟩, hS.F ht⟩) hS.2.2 dX0_init_22
abbrev wsX0_size : List Cond := ws_ yX0_size cX0_size 1 (some .int)
set_option maxHeartbeats 4000000 in
set_option maxRecDepth 100000 in
/-- size() -/
theorem metX0_size (l : Launch) (dC : Nat → ClassId) (dI : Nat → Nat → Nat) (h0 h1 h2 : Nat) (cB cC : ClassId) (sz : Nat) (n : Nat) (b : Nat → Nat) (rd : Int32) (w : Nat → Nat) : Met l yX0_size wsX0_size ({ frames := 0, cells := 0, slots := 0, locals := 0 }) (va_Pc [.ref h0] (fun U => U.heap.size = sz ∧ va_P (dC, dI) vwCl (wX0 h0 h1 h2 cB cC n b rd w) U.heap ∧ va_K (dC, dI) vwCl [(cB, .byte), (cC, .char)] U ∧ va_D (fun _ => True) (wX0 h0 h1 h2 cB cC n b rd w))) (va_Qi (fun (r : Int32) (u : wl_S) => r = nI n ∧ u = (n, b, rd, w)) (BX0 dC dI (va_A (wX0 h0 h1 h2 cB cC n b rd w) sz) h0 h1 h2 cB cC) (va_A (wX0 h0 h1 h2 cB cC n b rd w) sz)) 0 0 (va_A (wX0 h0 h1 h2 cB cC n b rd w) sz) := by
  refine Met.ofW (cc := cX0_size) (maxL := 1) (ret := (some .int)) (by decide) rfl ?_
  intro p e s m args below meth c s₁ B hml hv
  obtain ⟨rfl, hsz, hP, hK, hD0⟩ := hv
  have hx := B.exec
  have hb := B.bytes
  have hr := B.returns
  have hts := atoms_spec (ws := wsX0_size) B.pre
  have hts : ∀ w ∈ lw_all, w.before _ s = true := fun w h => hts w (List.mem_cons_of_mem _ h)
  have hown : s.vm.findClass RX0 = some m.cls := findClass_of_methodNamed B.named
  have hlocks := B.notSynchronized
  subst hsz
  have hD := hD0.self (sz := s.heap.size)
  generalize hAe : va_A (wX0 h0 h1 h2 cB cC n b rd w) s.heap.size = A at hD ⊢
  have hA : ∀ q : Nat, s.heap.size ≤ q → A q := fun q h => by rw [← hAe]; exact Or.inr h
  have hS : va_S A s.heap s.heap [] := va_S.rf
  have hP : va_P (dC, dI) vwCl [(h0, .inr (0, [.ref h1, .ref h2, .int (nI n), .int rd])), (h1, .inl (cB, 1024, .inl (wl_tb b))), (h2, .inl (cC, 1024, .inl (wl_ti w)))] s.heap := hP
  have hD : va_D A [(h0, .inr (0, [.ref h1, .ref h2, .int (nI n), .int rd])), (h1, .inl (cB, 1024, .inl (wl_tb b))), (h2, .inl (cC, 1024, .inl (wl_ti w)))] := hD
  have hl := lv_entry ([.ref h0]) (n := 1) (Nat.le_of_ble_eq_true rfl)
  rw [lg_entry_eq]
  generalize (lg_sl ([.ref h0]) ++ List.replicate (1 - (lg_sl ([.ref h0])).length) Slot.unset).toArray = ls at hl ⊢
  have hl : lv_has ls 1 [(0, .ref h0)] := hl
  refine lv_aload_n hx hb dX0_size_0 rfl (lv_at hl 0 rfl) ?_
  refine va_get (D := (dC, dI)) (ci := 0) (v := .int (nI n)) (C := RX0) (T := TX0) (N := 4) hx hb hts in_X0 hown hK hP 0 rfl rfl 2 (by decide) (hts _ q15) (fun _ h9 => h9) rfl dX0_size_1 ?_
  exact W.iret (v := nI n) hx hb hr (fun t ht hW => ⟨⟨(nI n), (n, b, rd, w), rfl, ⟨rfl, rfl⟩, by rw [ht]; exact hP, hD⟩, hS.F ht⟩) hS.2.2 dX0_size_4
abbrev wsX0_cut : List Cond := ws_ yX0_cut cX0_cut 2 none
set_option maxHeartbeats 4000000 in
set_option maxRecDepth 100000 in
/-- cut(n): the size falls -/
theorem metX0_cut (l : Launch) (dC : Nat → ClassId) (dI : Nat → Nat → Nat) (h0 h1 h2 : Nat) (cB cC : ClassId) (sz : Nat) (n : Nat) (b : Nat → Nat) (rd : Int32) (w : Nat → Nat) (p0 : Int32) (hn : n ≤ 1024) : Met l yX0_cut wsX0_cut ({ frames := 0, cells := 0, slots := 0, locals := 0 }) (va_Pc [.ref h0, .int p0] (fun U => U.heap.size = sz ∧ va_P (dC, dI) vwCl (wX0 h0 h1 h2 cB cC n b rd w) U.heap ∧ va_K (dC, dI) vwCl [(cB, .byte), (cC, .char)] U ∧ va_D (fun _ => True) (wX0 h0 h1 h2 cB cC n b rd w))) (va_Qv (fun (u : wl_S) => u = (wl_cut n p0, b, rd, w)) (BX0 dC dI (va_A (wX0 h0 h1 h2 cB cC n b rd w) sz) h0 h1 h2 cB cC) (va_A (wX0 h0 h1 h2 cB cC n b rd w) sz)) 0 0 (va_A (wX0 h0 h1 h2 cB cC n b rd w) sz) := by
  refine Met.ofW (cc := cX0_cut) (maxL := 2) (ret := none) (by decide) rfl ?_
  intro p e s m args below meth c s₁ B hml hv
  obtain ⟨rfl, hsz, hP, hK, hD0⟩ := hv
  have hx := B.exec
  have hb := B.bytes
  have hr := B.returns
  have hts := atoms_spec (ws := wsX0_cut) B.pre
  have hts : ∀ w ∈ lw_all, w.before _ s = true := fun w h => hts w (List.mem_cons_of_mem _ h)
  have hown : s.vm.findClass RX0 = some m.cls := findClass_of_methodNamed B.named
  have hlocks := B.notSynchronized
  subst hsz
  have hD := hD0.self (sz := s.heap.size)
  generalize hAe : va_A (wX0 h0 h1 h2 cB cC n b rd w) s.heap.size = A at hD ⊢
  have hA : ∀ q : Nat, s.heap.size ≤ q → A q := fun q h => by rw [← hAe]; exact Or.inr h
  have hS : va_S A s.heap s.heap [] := va_S.rf
  have hP : va_P (dC, dI) vwCl [(h0, .inr (0, [.ref h1, .ref h2, .int (nI n), .int rd])), (h1, .inl (cB, 1024, .inl (wl_tb b))), (h2, .inl (cC, 1024, .inl (wl_ti w)))] s.heap := hP
  have hD : va_D A [(h0, .inr (0, [.ref h1, .ref h2, .int (nI n), .int rd])), (h1, .inl (cB, 1024, .inl (wl_tb b))), (h2, .inl (cC, 1024, .inl (wl_ti w)))] := hD
  have hl := lv_entry ([.ref h0, .int p0]) (n := 2) (Nat.le_of_ble_eq_true rfl)
  rw [lg_entry_eq]
  generalize (lg_sl ([.ref h0, .int p0]) ++ List.replicate (2 - (lg_sl ([.ref h0, .int p0])).length) Slot.unset).toArray = ls at hl ⊢
  have hl : lv_has ls 2 [(0, .ref h0), (1, .int p0)] := hl
  refine lv_aload_n hx hb dX0_cut_0 rfl (lv_at hl 0 rfl) ?_
  refine lv_iload_n hx hb dX0_cut_1 rfl (lv_at hl 1 rfl) ?_
  refine lv_ldc hx hb hown (hts _ q38) dX0_cut_2 ?_
  refine wl_e (y := nI 2147483647) (rfl) ?_
  refine lv_iand hx hb dX0_cut_4 ?_
  refine wl_e (y := nI (wl_m31 p0)) (wl_and31 p0) ?_
  refine lv_aload_n hx hb dX0_cut_5 rfl (lv_at hl 0 rfl) ?_
  refine va_get (D := (dC, dI)) (ci := 0) (v := .int (nI n)) (C := RX0) (T := TX0) (N := 4) hx hb hts in_X0 hown hK hP 0 rfl rfl 2 (by decide) (hts _ q15) (fun _ h9 => h9) rfl dX0_cut_6 ?_
  refine lv_iconst (v := nI 1) hx hb dX0_cut_9 (by decide) ?_
  refine lv_iadd hx hb dX0_cut_10 ?_
  refine wl_e (y := nI (n + 1)) (nI_add n 1) ?_
  refine lv_irem hx hb dX0_cut_11 (nI_ne0 (Nat.succ_pos n) (by omega)) ?_
  refine wl_e (y := nI (wl_cut n p0)) (wl_rem p0 (Nat.succ_pos n) (by omega)) ?_
  refine va_put (D := (dC, dI)) (ci := 0) (v := .int (nI (wl_cut n p0))) (ty := .int) (C := RX0) (T := TX0) (N := 4) hx hb hts in_X0 tyX0 tyX0_ok nmX0 hown hK hP hD hS 0 rfl rfl 2 (by decide) (hts _ q15) (fun _ h9 => h9) rfl (by decide +kernel) rfl rfl (Nat.le_of_ble_eq_true rfl) dX0_cut_12 (fun H locs hP hD hS => ?_)
  have hP : va_P (dC, dI) vwCl [(h0, .inr (0, [.ref h1, .ref h2, .int (nI (wl_cut n p0)), .int rd])), (h1, .inl (cB, 1024, .inl (wl_tb b))), (h2, .inl (cC, 1024, .inl (wl_ti w)))] H := hP
  have hD : va_D A [(h0, .inr (0, [.ref h1, .ref h2, .int (nI (wl_cut n p0)), .int rd])), (h1, .inl (cB, 1024, .inl (wl_tb b))), (h2, .inl (cC, 1024, .inl (wl_ti w)))] := hD
  exact W.vret hx hb hr (fun t ht hW => ⟨⟨(wl_cut n p0, b, rd, w), rfl, rfl, by rw [ht]; exact hP, hD⟩, hS.F ht⟩) hS.2.2 dX0_cut_15
abbrev wsX0_spoil : List Cond := ws_ yX0_spoil cX0_spoil 3 none
set_option maxHeartbeats 4000000 in
set_option maxRecDepth 100000 in
/-- spoil(at, x): one byte is changed, if there is one -/
theorem metX0_spoil (l : Launch) (dC : Nat → ClassId) (dI : Nat → Nat → Nat) (h0 h1 h2 : Nat) (cB cC : ClassId) (sz : Nat) (n : Nat) (b : Nat → Nat) (rd : Int32) (w : Nat → Nat) (p0 : Int32) (p1 : Int32) (hn : n ≤ 1024) : Met l yX0_spoil wsX0_spoil ({ frames := 0, cells := 0, slots := 0, locals := 0 }) (va_Pc [.ref h0, .int p0, .int p1] (fun U => U.heap.size = sz ∧ va_P (dC, dI) vwCl (wX0 h0 h1 h2 cB cC n b rd w) U.heap ∧ va_K (dC, dI) vwCl [(cB, .byte), (cC, .char)] U ∧ va_D (fun _ => True) (wX0 h0 h1 h2 cB cC n b rd w))) (va_Qv (fun (u : wl_S) => u = (n, wl_spoil n b p0 p1, rd, w)) (BX0 dC dI (va_A (wX0 h0 h1 h2 cB cC n b rd w) sz) h0 h1 h2 cB cC) (va_A (wX0 h0 h1 h2 cB cC n b rd w) sz)) 0 0 (va_A (wX0 h0 h1 h2 cB cC n b rd w) sz) := by
  refine Met.ofW (cc := cX0_spoil) (maxL := 3) (ret := none) (by decide) rfl ?_
  intro p e s m args below meth c s₁ B hml hv
  obtain ⟨rfl, hsz, hP, hK, hD0⟩ := hv
  have hx := B.exec
  have hb := B.bytes
  have hr := B.returns
  have hts := atoms_spec (ws := wsX0_spoil) B.pre
  have hts : ∀ w ∈ lw_all, w.before _ s = true := fun w h => hts w (List.mem_cons_of_mem _ h)
  have hown : s.vm.findClass RX0 = some m.cls := findClass_of_methodNamed B.named
  have hlocks := B.notSynchronized
  subst hsz
  have hD := hD0.self (sz := s.heap.size)
  generalize hAe : va_A (wX0 h0 h1 h2 cB cC n b rd w) s.heap.size = A at hD ⊢
  have hA : ∀ q : Nat, s.heap.size ≤ q → A q := fun q h => by rw [← hAe]; exact Or.inr h
  have hS : va_S A s.heap s.heap [] := va_S.rf
  have hP : va_P (dC, dI) vwCl [(h0, .inr (0, [.ref h1, .ref h2, .int (nI n), .int rd])), (h1, .inl (cB, 1024, .inl (wl_tb b))), (h2, .inl (cC, 1024, .inl (wl_ti w)))] s.heap := hP
  have hD : va_D A [(h0, .inr (0, [.ref h1, .ref h2, .int (nI n), .int rd])), (h1, .inl (cB, 1024, .inl (wl_tb b))), (h2, .inl (cC, 1024, .inl (wl_ti w)))] := hD
  have hl := lv_entry ([.ref h0, .int p0, .int p1]) (n := 3) (Nat.le_of_ble_eq_true rfl)
  rw [lg_entry_eq]
  generalize (lg_sl ([.ref h0, .int p0, .int p1]) ++ List.replicate (3 - (lg_sl ([.ref h0, .int p0, .int p1])).length) Slot.unset).toArray = ls at hl ⊢
  have hl : lv_has ls 3 [(0, .ref h0), (1, .int p0), (2, .int p1)] := hl
  refine lv_aload_n hx hb dX0_spoil_0 rfl (lv_at hl 0 rfl) ?_
  refine va_get (D := (dC, dI)) (ci := 0) (v := .int (nI n)) (C := RX0) (T := TX0) (N := 4) hx hb hts in_X0 hown hK hP 0 rfl rfl 2 (by decide) (hts _ q15) (fun _ h9 => h9) rfl dX0_spoil_1 ?_
  refine lv_if_le (tgt := 23) hx hb dX0_spoil_4 (by decide) (fun q => ?_) (fun q => ?_)
  · have q0 : ¬ 0 < n := fun z => nI_nle z (by omega) q
    have e0 : wl_spoil n b p0 p1 = b := if_neg q0
    exact W.vret hx hb hr (fun t ht hW => ⟨⟨(n, b, rd, w), rfl, by rw [e0], by rw [ht]; exact hP, hD⟩, hS.F ht⟩) hS.2.2 dX0_spoil_23
  · have q0 : 0 < n := Nat.pos_of_ne_zero (fun z => q (by rw [z]; decide))
    have e0 : wl_spoil n b p0 p1 = wl_up b (wl_m31 p0 % n) (wl_m8 p1) := if_pos q0
    have hlt : wl_m31 p0 % n < n := Nat.mod_lt _ q0
    refine lv_aload_n hx hb dX0_spoil_7 rfl (lv_at hl 0 rfl) ?_
    refine va_get (D := (dC, dI)) (ci := 0) (v := .ref h1) (C := RX0) (T := TX0) (N := 4) hx hb hts in_X0 hown hK hP 0 rfl rfl 0 (by decide) (hts _ q13) (fun _ h9 => h9) rfl dX0_spoil_8 ?_
    refine lv_iload_n hx hb dX0_spoil_11 rfl (lv_at hl 1 rfl) ?_
    refine lv_ldc hx hb hown (hts _ q38) dX0_spoil_12 ?_
    refine wl_e (y := nI 2147483647) (rfl) ?_
    refine lv_iand hx hb dX0_spoil_14 ?_
    refine wl_e (y := nI (wl_m31 p0)) (wl_and31 p0) ?_
    refine lv_aload_n hx hb dX0_spoil_15 rfl (lv_at hl 0 rfl) ?_
    refine va_get (D := (dC, dI)) (ci := 0) (v := .int (nI n)) (C := RX0) (T := TX0) (N := 4) hx hb hts in_X0 hown hK hP 0 rfl rfl 2 (by decide) (hts _ q15) (fun _ h9 => h9) rfl dX0_spoil_16 ?_
    refine lv_irem hx hb dX0_spoil_19 (nI_ne0 q0 (by omega)) ?_
    refine wl_e (y := nI (wl_m31 p0 % n)) (wl_rem p0 q0 (by omega)) ?_
    refine lv_iload_n hx hb dX0_spoil_20 rfl (lv_at hl 2 rfl) ?_
    refine lv_i2b (v := wl_B (wl_m8 p1)) hx hb dX0_spoil_21 (wl_i2b p1) ?_
    refine wl_bast (F := wl_tb (wl_up b (wl_m31 p0 % n) (wl_m8 p1))) hx hb hK hP hD hS 1 0 rfl rfl (vp_in_nI (by omega) (by decide)) dX0_spoil_22 (wl_upB (nI_clamp (by omega)) (wl_narB _)) (fun H locs hP hD hS => ?_)
    have hP : va_P (dC, dI) vwCl [(h0, .inr (0, [.ref h1, .ref h2, .int (nI n), .int rd])), (h1, .inl (cB, 1024, .inl (wl_tb (wl_up b (wl_m31 p0 % n) (wl_m8 p1))))), (h2, .inl (cC, 1024, .inl (wl_ti w)))] H := hP
    have hD : va_D A [(h0, .inr (0, [.ref h1, .ref h2, .int (nI n), .int rd])), (h1, .inl (cB, 1024, .inl (wl_tb (wl_up b (wl_m31 p0 % n) (wl_m8 p1))))), (h2, .inl (cC, 1024, .inl (wl_ti w)))] := hD
    exact W.vret hx hb hr (fun t ht hW => ⟨⟨(n, wl_up b (wl_m31 p0 % n) (wl_m8 p1), rd, w), rfl, by rw [e0], by rw [ht]; exact hP, hD⟩, hS.F ht⟩) hS.2.2 dX0_spoil_23
abbrev wsX0_letter : List Cond := ws_ yX0_letter cX0_letter 2 (some .int)
set_option maxHeartbeats 4000000 in
set_option maxRecDepth 100000 in
/-- letter(i): a letter of the last read -/
theorem metX0_letter (l : Launch) (dC : Nat → ClassId) (dI : Nat → Nat → Nat) (h0 h1 h2 : Nat) (cB cC : ClassId) (sz : Nat) (n : Nat) (b : Nat → Nat) (rd : Int32) (w : Nat → Nat) (p0 : Int32) (hrd : wl_ok rd) : Met l yX0_letter wsX0_letter ({ frames := 0, cells := 0, slots := 0, locals := 0 }) (va_Pc [.ref h0, .int p0] (fun U => U.heap.size = sz ∧ va_P (dC, dI) vwCl (wX0 h0 h1 h2 cB cC n b rd w) U.heap ∧ va_K (dC, dI) vwCl [(cB, .byte), (cC, .char)] U ∧ va_D (fun _ => True) (wX0 h0 h1 h2 cB cC n b rd w))) (va_Qi (fun (r : Int32) (u : wl_S) => r = wl_let rd w p0 ∧ u = (n, b, rd, w)) (BX0 dC dI (va_A (wX0 h0 h1 h2 cB cC n b rd w) sz) h0 h1 h2 cB cC) (va_A (wX0 h0 h1 h2 cB cC n b rd w) sz)) 0 0 (va_A (wX0 h0 h1 h2 cB cC n b rd w) sz) := by
  refine Met.ofW (cc := cX0_letter) (maxL := 2) (ret := (some .int)) (by decide) rfl ?_
  intro p e s m args below meth c s₁ B hml hv
  obtain ⟨rfl, hsz, hP, hK, hD0⟩ := hv
  have hx := B.exec
  have hb := B.bytes
  have hr := B.returns
  have hts := atoms_spec (ws := wsX0_letter) B.pre
  have hts : ∀ w ∈ lw_all, w.before _ s = true := fun w h => hts w (List.mem_cons_of_mem _ h)
  have hown : s.vm.findClass RX0 = some m.cls := findClass_of_methodNamed B.named
  have hlocks := B.notSynchronized
  subst hsz
  have hD := hD0.self (sz := s.heap.size)
  generalize hAe : va_A (wX0 h0 h1 h2 cB cC n b rd w) s.heap.size = A at hD ⊢
  have hA : ∀ q : Nat, s.heap.size ≤ q → A q := fun q h => by rw [← hAe]; exact Or.inr h
  have hS : va_S A s.heap s.heap [] := va_S.rf
  have hP : va_P (dC, dI) vwCl [(h0, .inr (0, [.ref h1, .ref h2, .int (nI n), .int rd])), (h1, .inl (cB, 1024, .inl (wl_tb b))), (h2, .inl (cC, 1024, .inl (wl_ti w)))] s.heap := hP
  have hD : va_D A [(h0, .inr (0, [.ref h1, .ref h2, .int (nI n), .int rd])), (h1, .inl (cB, 1024, .inl (wl_tb b))), (h2, .inl (cC, 1024, .inl (wl_ti w)))] := hD
  have hl := lv_entry ([.ref h0, .int p0]) (n := 2) (Nat.le_of_ble_eq_true rfl)
  rw [lg_entry_eq]
  generalize (lg_sl ([.ref h0, .int p0]) ++ List.replicate (2 - (lg_sl ([.ref h0, .int p0])).length) Slot.unset).toArray = ls at hl ⊢
  have hl : lv_has ls 2 [(0, .ref h0), (1, .int p0)] := hl
  refine lv_aload_n hx hb dX0_letter_0 rfl (lv_at hl 0 rfl) ?_
  refine va_get (D := (dC, dI)) (ci := 0) (v := .int rd) (C := RX0) (T := TX0) (N := 4) hx hb hts in_X0 hown hK hP 0 rfl rfl 3 (by decide) (hts _ q16) (fun _ h9 => h9) rfl dX0_letter_1 ?_
  refine lv_if_gt (tgt := 11) hx hb dX0_letter_4 (by decide) (fun q => ?_) (fun q => ?_)
  · obtain ⟨r, hr0, hr1, rfl⟩ := wl_ok_pos hrd q
    have hlt : wl_m31 p0 % r < r := Nat.mod_lt _ hr0
    refine lv_aload_n hx hb dX0_letter_11 rfl (lv_at hl 0 rfl) ?_
    refine va_get (D := (dC, dI)) (ci := 0) (v := .ref h2) (C := RX0) (T := TX0) (N := 4) hx hb hts in_X0 hown hK hP 0 rfl rfl 1 (by decide) (hts _ q14) (fun _ h9 => h9) rfl dX0_letter_12 ?_
    refine lv_iload_n hx hb dX0_letter_15 rfl (lv_at hl 1 rfl) ?_
    refine lv_ldc hx hb hown (hts _ q38) dX0_letter_16 ?_
    refine wl_e (y := nI 2147483647) (rfl) ?_
    refine lv_iand hx hb dX0_letter_18 ?_
    refine wl_e (y := nI (wl_m31 p0)) (wl_and31 p0) ?_
    refine lv_aload_n hx hb dX0_letter_19 rfl (lv_at hl 0 rfl) ?_
    refine va_get (D := (dC, dI)) (ci := 0) (v := .int (nI r)) (C := RX0) (T := TX0) (N := 4) hx hb hts in_X0 hown hK hP 0 rfl rfl 3 (by decide) (hts _ q16) (fun _ h9 => h9) rfl dX0_letter_20 ?_
    refine lv_irem hx hb dX0_letter_23 (nI_ne0 hr0 (by omega)) ?_
    refine wl_e (y := nI (wl_m31 p0 % r)) (wl_rem p0 hr0 (by omega)) ?_
    refine va_cald hx hb hK hP 2 1 rfl rfl (vp_in_nI (by omega) (by decide)) dX0_letter_24 ?_
    refine wl_e (y := nI (w (wl_m31 p0 % r))) (wl_tiA (by omega)) ?_
    exact W.iret (v := nI (w (wl_m31 p0 % r))) hx hb hr (fun t ht hW => ⟨⟨(nI (w (wl_m31 p0 % r))), (n, b, nI r, w), rfl, ⟨by rw [wl_let, if_pos q, nI_clamp (by omega)], rfl⟩, by rw [ht]; exact hP, hD⟩, hS.F ht⟩) hS.2.2 dX0_letter_25
  · refine lv_iconst (v := (-1)) hx hb dX0_letter_7 (by decide) ?_
    refine lv_goto (tgt := 25) hx hb dX0_letter_8 (by decide) ?_
    exact W.iret (v := -1) hx hb hr (fun t ht hW => ⟨⟨(-1), (n, b, rd, w), rfl, ⟨(if_neg q).symm, rfl⟩, by rw [ht]; exact hP, hD⟩, hS.F ht⟩) hS.2.2 dX0_letter_25
abbrev wsX0_lay : List Cond := ws_ yX0_lay cX0_lay 3 (some .int)
set_option maxHeartbeats 4000000 in
set_option maxRecDepth 100000 in
/-- lay(c): the letter in UTF-8 behind the bytes -/
theorem metX0_lay (l : Launch) (dC : Nat → ClassId) (dI : Nat → Nat → Nat) (h0 h1 h2 : Nat) (cB cC : ClassId) (sz : Nat) (n : Nat) (b : Nat → Nat) (rd : Int32) (w : Nat → Nat) (p0 : Int32) (hn : n ≤ 1024) : Met l yX0_lay wsX0_lay ({ frames := 0, cells := 0, slots := 0, locals := 0 }) (va_Pc [.ref h0, .int p0] (fun U => U.heap.size = sz ∧ va_P (dC, dI) vwCl (wX0 h0 h1 h2 cB cC n b rd w) U.heap ∧ va_K (dC, dI) vwCl [(cB, .byte), (cC, .char)] U ∧ va_D (fun _ => True) (wX0 h0 h1 h2 cB cC n b rd w))) (va_Qi (fun (r : Int32) (u : wl_S) => r = (wl_lay n b p0).1 ∧ u = ((wl_lay n b p0).2.1, (wl_lay n b p0).2.2, rd, w)) (BX0 dC dI (va_A (wX0 h0 h1 h2 cB cC n b rd w) sz) h0 h1 h2 cB cC) (va_A (wX0 h0 h1 h2 cB cC n b rd w) sz)) 0 0 (va_A (wX0 h0 h1 h2 cB cC n b rd w) sz) := by
  refine Met.ofW (cc := cX0_lay) (maxL := 3) (ret := (some .int)) (by decide) rfl ?_
  intro p e s m args below meth c s₁ B hml hv
  obtain ⟨rfl, hsz, hP, hK, hD0⟩ := hv
  have hx := B.exec
  have hb := B.bytes
  have hr := B.returns
  have hts := atoms_spec (ws := wsX0_lay) B.pre
  have hts : ∀ w ∈ lw_all, w.before _ s = true := fun w h => hts w (List.mem_cons_of_mem _ h)
  have hown : s.vm.findClass RX0 = some m.cls := findClass_of_methodNamed B.named
  have hlocks := B.notSynchronized
  subst hsz
  have hD := hD0.self (sz := s.heap.size)
  generalize hAe : va_A (wX0 h0 h1 h2 cB cC n b rd w) s.heap.size = A at hD ⊢
  have hA : ∀ q : Nat, s.heap.size ≤ q → A q := fun q h => by rw [← hAe]; exact Or.inr h
  have hS : va_S A s.heap s.heap [] := va_S.rf
  have hP : va_P (dC, dI) vwCl [(h0, .inr (0, [.ref h1, .ref h2, .int (nI n), .int rd])), (h1, .inl (cB, 1024, .inl (wl_tb b))), (h2, .inl (cC, 1024, .inl (wl_ti w)))] s.heap := hP
  have hD : va_D A [(h0, .inr (0, [.ref h1, .ref h2, .int (nI n), .int rd])), (h1, .inl (cB, 1024, .inl (wl_tb b))), (h2, .inl (cC, 1024, .inl (wl_ti w)))] := hD
  have hl := lv_entry ([.ref h0, .int p0]) (n := 3) (Nat.le_of_ble_eq_true rfl)
  rw [lg_entry_eq]
  generalize (lg_sl ([.ref h0, .int p0]) ++ List.replicate (3 - (lg_sl ([.ref h0, .int p0])).length) Slot.unset).toArray = ls at hl ⊢
  have hl : lv_has ls 3 [(0, .ref h0), (1, .int p0)] := hl
  refine lv_aload_n hx hb dX0_lay_0 rfl (lv_at hl 0 rfl) ?_
  refine va_get (D := (dC, dI)) (ci := 0) (v := .int (nI n)) (C := RX0) (T := TX0) (N := 4) hx hb hts in_X0 hown hK hP 0 rfl rfl 2 (by decide) (hts _ q15) (fun _ h9 => h9) rfl dX0_lay_1 ?_
  refine lv_sipush (v := nI 1020) hx hb dX0_lay_4 (by decide) ?_
  refine wl_jle (u := n) (v := 1020) (tgt := 12) hx hb dX0_lay_7 (by decide) (by omega) (by omega) (fun q => ?_) (fun q => ?_)
  · obtain ⟨v, ev, hv⟩ : ∃ v, wl_m21 p0 = v ∧ v < 2097152 := ⟨_, rfl, wl_m21_lt p0⟩
    have el : wl_lay n b p0 = (nI (wl_layN n v), wl_layN n v, wl_layB n b v) := by rw [wl_lay, if_neg (by omega), ev]
    refine lv_iload_n hx hb dX0_lay_12 rfl (lv_at hl 1 rfl) ?_
    refine lv_ldc hx hb hown (hts _ q32) dX0_lay_13 ?_
    refine wl_e (y := nI 2097151) (rfl) ?_
    refine lv_iand hx hb dX0_lay_15 ?_
    refine wl_e (y := nI v) (by rw [wl_and21, ev]) ?_
    refine lv_istore_n (lv' := [(2, .int (nI v)), (0, .ref h0), (1, .int p0)]) hx hb dX0_lay_16 rfl hl (by decide) rfl (fun ls hl => ?_)
    refine lv_iload_n hx hb dX0_lay_17 rfl (lv_at hl 0 rfl) ?_
    refine lv_sipush (v := nI 128) hx hb dX0_lay_18 (by decide) ?_
    refine wl_jge (u := v) (v := 128) (tgt := 45) hx hb dX0_lay_21 (by decide) (by omega) (by omega) (fun c0 => ?_) (fun c0 => ?_)
    · refine lv_iload_n hx hb dX0_lay_45 rfl (lv_at hl 0 rfl) ?_
      refine lv_sipush (v := nI 2048) hx hb dX0_lay_46 (by decide) ?_
      refine wl_jge (u := v) (v := 2048) (tgt := 105) hx hb dX0_lay_49 (by decide) (by omega) (by omega) (fun c1 => ?_) (fun c1 => ?_)
      · refine lv_iload_n hx hb dX0_lay_105 rfl (lv_at hl 0 rfl) ?_
        refine lv_ldc hx hb hown (hts _ q33) dX0_lay_106 ?_
        refine wl_e (y := nI 65536) (rfl) ?_
        refine wl_jge (u := v) (v := 65536) (tgt := 192) hx hb dX0_lay_108 (by decide) (by omega) (by omega) (fun c2 => ?_) (fun c2 => ?_)
        · refine lv_aload_n hx hb dX0_lay_192 rfl (lv_at hl 1 rfl) ?_
          refine va_get (D := (dC, dI)) (ci := 0) (v := .ref h1) (C := RX0) (T := TX0) (N := 4) hx hb hts in_X0 hown hK hP 0 rfl rfl 0 (by decide) (hts _ q13) (fun _ h9 => h9) rfl dX0_lay_193 ?_
          refine lv_aload_n hx hb dX0_lay_196 rfl (lv_at hl 1 rfl) ?_
          refine lv_dup hx hb dX0_lay_197 rfl ?_
          refine va_get (D := (dC, dI)) (ci := 0) (v := .int (nI n)) (C := RX0) (T := TX0) (N := 4) hx hb hts in_X0 hown hK hP 0 rfl rfl 2 (by decide) (hts _ q15) (fun _ h9 => h9) rfl dX0_lay_198 ?_
          refine lv_dup_x1 hx hb dX0_lay_201 rfl rfl ?_
          refine lv_iconst (v := nI 1) hx hb dX0_lay_202 (by decide) ?_
          refine lv_iadd hx hb dX0_lay_203 ?_
          refine wl_e (y := nI (n + 1)) (nI_add n 1) ?_
          refine va_put (D := (dC, dI)) (ci := 0) (v := .int (nI (n + 1))) (ty := .int) (C := RX0) (T := TX0) (N := 4) hx hb hts in_X0 tyX0 tyX0_ok nmX0 hown hK hP hD hS 0 rfl rfl 2 (by decide) (hts _ q15) (fun _ h9 => h9) rfl (by decide +kernel) rfl rfl (Nat.le_of_ble_eq_true rfl) dX0_lay_204 (fun H locs hP hD hS => ?_)
          have hP : va_P (dC, dI) vwCl [(h0, .inr (0, [.ref h1, .ref h2, .int (nI (n + 1)), .int rd])), (h1, .inl (cB, 1024, .inl (wl_tb b))), (h2, .inl (cC, 1024, .inl (wl_ti w)))] H := hP
          have hD : va_D A [(h0, .inr (0, [.ref h1, .ref h2, .int (nI (n + 1)), .int rd])), (h1, .inl (cB, 1024, .inl (wl_tb b))), (h2, .inl (cC, 1024, .inl (wl_ti w)))] := hD
          refine lv_sipush (v := nI 240) hx hb dX0_lay_207 (by decide) ?_
          refine lv_iload_n hx hb dX0_lay_210 rfl (lv_at hl 0 rfl) ?_
          refine lv_bipush (v := nI 18) hx hb dX0_lay_211 (by decide) ?_
          refine lv_ishr hx hb dX0_lay_213 ?_
          refine wl_e (y := nI (v / 262144)) (wl_shr (by omega) (by decide)) ?_
          refine lv_ior hx hb dX0_lay_214 ?_
          refine wl_e (y := nI (240 + v / 262144)) (wl_orA (i := 3) (c := 30) (by omega) (by decide)) ?_
          refine lv_i2b (v := wl_B (240 + v / 262144)) hx hb dX0_lay_215 (rfl) ?_
          refine wl_bast (F := wl_tb (wl_up b n (240 + v / 262144))) hx hb hK hP hD hS 1 0 rfl rfl (vp_in_nI (by omega) (by decide)) dX0_lay_216 (wl_upB (nI_clamp (by omega)) (wl_narB _)) (fun H locs hP hD hS => ?_)
          have hP : va_P (dC, dI) vwCl [(h0, .inr (0, [.ref h1, .ref h2, .int (nI (n + 1)), .int rd])), (h1, .inl (cB, 1024, .inl (wl_tb (wl_up b n (240 + v / 262144))))), (h2, .inl (cC, 1024, .inl (wl_ti w)))] H := hP
          have hD : va_D A [(h0, .inr (0, [.ref h1, .ref h2, .int (nI (n + 1)), .int rd])), (h1, .inl (cB, 1024, .inl (wl_tb (wl_up b n (240 + v / 262144))))), (h2, .inl (cC, 1024, .inl (wl_ti w)))] := hD
          refine lv_aload_n hx hb dX0_lay_217 rfl (lv_at hl 1 rfl) ?_
          refine va_get (D := (dC, dI)) (ci := 0) (v := .ref h1) (C := RX0) (T := TX0) (N := 4) hx hb hts in_X0 hown hK hP 0 rfl rfl 0 (by decide) (hts _ q13) (fun _ h9 => h9) rfl dX0_lay_218 ?_
          refine lv_aload_n hx hb dX0_lay_221 rfl (lv_at hl 1 rfl) ?_
          refine lv_dup hx hb dX0_lay_222 rfl ?_
          refine va_get (D := (dC, dI)) (ci := 0) (v := .int (nI (n + 1))) (C := RX0) (T := TX0) (N := 4) hx hb hts in_X0 hown hK hP 0 rfl rfl 2 (by decide) (hts _ q15) (fun _ h9 => h9) rfl dX0_lay_223 ?_
          refine lv_dup_x1 hx hb dX0_lay_226 rfl rfl ?_
          refine lv_iconst (v := nI 1) hx hb dX0_lay_227 (by decide) ?_
          refine lv_iadd hx hb dX0_lay_228 ?_
          refine wl_e (y := nI (n + 2)) (nI_add (n + 1) 1) ?_
          refine va_put (D := (dC, dI)) (ci := 0) (v := .int (nI (n + 2))) (ty := .int) (C := RX0) (T := TX0) (N := 4) hx hb hts in_X0 tyX0 tyX0_ok nmX0 hown hK hP hD hS 0 rfl rfl 2 (by decide) (hts _ q15) (fun _ h9 => h9) rfl (by decide +kernel) rfl rfl (Nat.le_of_ble_eq_true rfl) dX0_lay_229 (fun H locs hP hD hS => ?_)
          have hP : va_P (dC, dI) vwCl [(h0, .inr (0, [.ref h1, .ref h2, .int (nI (n + 2)), .int rd])), (h1, .inl (cB, 1024, .inl (wl_tb (wl_up b n (240 + v / 262144))))), (h2, .inl (cC, 1024, .inl (wl_ti w)))] H := hP
          have hD : va_D A [(h0, .inr (0, [.ref h1, .ref h2, .int (nI (n + 2)), .int rd])), (h1, .inl (cB, 1024, .inl (wl_tb (wl_up b n (240 + v / 262144))))), (h2, .inl (cC, 1024, .inl (wl_ti w)))] := hD
          refine lv_sipush (v := nI 128) hx hb dX0_lay_232 (by decide) ?_
          refine lv_iload_n hx hb dX0_lay_235 rfl (lv_at hl 0 rfl) ?_
          refine lv_bipush (v := nI 12) hx hb dX0_lay_236 (by decide) ?_
          refine lv_ishr hx hb dX0_lay_238 ?_
          refine wl_e (y := nI (v / 4096)) (wl_shr (by omega) (by decide)) ?_
          refine lv_bipush (v := nI 63) hx hb dX0_lay_239 (by decide) ?_
          refine lv_iand hx hb dX0_lay_241 ?_
          refine wl_e (y := nI (v / 4096 % 64)) (pk_andN (by omega) 6 (by decide)) ?_
          refine lv_ior hx hb dX0_lay_242 ?_
          refine wl_e (y := nI (128 + v / 4096 % 64)) (wl_orA (i := 6) (c := 2) (by omega) (by decide)) ?_
          refine lv_i2b (v := wl_B (128 + v / 4096 % 64)) hx hb dX0_lay_243 (rfl) ?_
          refine wl_bast (F := wl_tb (wl_up (wl_up b n (240 + v / 262144)) (n + 1) (128 + v / 4096 % 64))) hx hb hK hP hD hS 1 0 rfl rfl (vp_in_nI (by omega) (by decide)) dX0_lay_244 (wl_upB (nI_clamp (by omega)) (wl_narB _)) (fun H locs hP hD hS => ?_)
          have hP : va_P (dC, dI) vwCl [(h0, .inr (0, [.ref h1, .ref h2, .int (nI (n + 2)), .int rd])), (h1, .inl (cB, 1024, .inl (wl_tb (wl_up (wl_up b n (240 + v / 262144)) (n + 1) (128 + v / 4096 % 64))))), (h2, .inl (cC, 1024, .inl (wl_ti w)))] H := hP
          have hD : va_D A [(h0, .inr (0, [.ref h1, .ref h2, .int (nI (n + 2)), .int rd])), (h1, .inl (cB, 1024, .inl (wl_tb (wl_up (wl_up b n (240 + v / 262144)) (n + 1) (128 + v / 4096 % 64))))), (h2, .inl (cC, 1024, .inl (wl_ti w)))] := hD
          refine lv_aload_n hx hb dX0_lay_245 rfl (lv_at hl 1 rfl) ?_
          refine va_get (D := (dC, dI)) (ci := 0) (v := .ref h1) (C := RX0) (T := TX0) (N := 4) hx hb hts in_X0 hown hK hP 0 rfl rfl 0 (by decide) (hts _ q13) (fun _ h9 => h9) rfl dX0_lay_246 ?_
          refine lv_aload_n hx hb dX0_lay_249 rfl (lv_at hl 1 rfl) ?_
          refine lv_dup hx hb dX0_lay_250 rfl ?_
          refine va_get (D := (dC, dI)) (ci := 0) (v := .int (nI (n + 2))) (C := RX0) (T := TX0) (N := 4) hx hb hts in_X0 hown hK hP 0 rfl rfl 2 (by decide) (hts _ q15) (fun _ h9 => h9) rfl dX0_lay_251 ?_
          refine lv_dup_x1 hx hb dX0_lay_254 rfl rfl ?_
          refine lv_iconst (v := nI 1) hx hb dX0_lay_255 (by decide) ?_
          refine lv_iadd hx hb dX0_lay_256 ?_
          refine wl_e (y := nI (n + 3)) (nI_add (n + 2) 1) ?_
          refine va_put (D := (dC, dI)) (ci := 0) (v := .int (nI (n + 3))) (ty := .int) (C := RX0) (T := TX0) (N := 4) hx hb hts in_X0 tyX0 tyX0_ok nmX0 hown hK hP hD hS 0 rfl rfl 2 (by decide) (hts _ q15) (fun _ h9 => h9) rfl (by decide +kernel) rfl rfl (Nat.le_of_ble_eq_true rfl) dX0_lay_257 (fun H locs hP hD hS => ?_)
          have hP : va_P (dC, dI) vwCl [(h0, .inr (0, [.ref h1, .ref h2, .int (nI (n + 3)), .int rd])), (h1, .inl (cB, 1024, .inl (wl_tb (wl_up (wl_up b n (240 + v / 262144)) (n + 1) (128 + v / 4096 % 64))))), (h2, .inl (cC, 1024, .inl (wl_ti w)))] H := hP
          have hD : va_D A [(h0, .inr (0, [.ref h1, .ref h2, .int (nI (n + 3)), .int rd])), (h1, .inl (cB, 1024, .inl (wl_tb (wl_up (wl_up b n (240 + v / 262144)) (n + 1) (128 + v / 4096 % 64))))), (h2, .inl (cC, 1024, .inl (wl_ti w)))] := hD
          refine lv_sipush (v := nI 128) hx hb dX0_lay_260 (by decide) ?_
          refine lv_iload_n hx hb dX0_lay_263 rfl (lv_at hl 0 rfl) ?_
          refine lv_bipush (v := nI 6) hx hb dX0_lay_264 (by decide) ?_
          refine lv_ishr hx hb dX0_lay_266 ?_
          refine wl_e (y := nI (v / 64)) (wl_shr (by omega) (by decide)) ?_
          refine lv_bipush (v := nI 63) hx hb dX0_lay_267 (by decide) ?_
          refine lv_iand hx hb dX0_lay_269 ?_
          refine wl_e (y := nI (v / 64 % 64)) (pk_andN (by omega) 6 (by decide)) ?_
          refine lv_ior hx hb dX0_lay_270 ?_
          refine wl_e (y := nI (128 + v / 64 % 64)) (wl_orA (i := 6) (c := 2) (by omega) (by decide)) ?_
          refine lv_i2b (v := wl_B (128 + v / 64 % 64)) hx hb dX0_lay_271 (rfl) ?_
          refine wl_bast (F := wl_tb (wl_up (wl_up (wl_up b n (240 + v / 262144)) (n + 1) (128 + v / 4096 % 64)) (n + 2) (128 + v / 64 % 64))) hx hb hK hP hD hS 1 0 rfl rfl (vp_in_nI (by omega) (by decide)) dX0_lay_272 (wl_upB (nI_clamp (by omega)) (wl_narB _)) (fun H locs hP hD hS => ?_)
          have hP : va_P (dC, dI) vwCl [(h0, .inr (0, [.ref h1, .ref h2, .int (nI (n + 3)), .int rd])), (h1, .inl (cB, 1024, .inl (wl_tb (wl_up (wl_up (wl_up b n (240 + v / 262144)) (n + 1) (128 + v / 4096 % 64)) (n + 2) (128 + v / 64 % 64))))), (h2, .inl (cC, 1024, .inl (wl_ti w)))] H := hP
          have hD : va_D A [(h0, .inr (0, [.ref h1, .ref h2, .int (nI (n + 3)), .int rd])), (h1, .inl (cB, 1024, .inl (wl_tb (wl_up (wl_up (wl_up b n (240 + v / 262144)) (n + 1) (128 + v / 4096 % 64)) (n + 2) (128 + v / 64 % 64))))), (h2, .inl (cC, 1024, .inl (wl_ti w)))] := hD
          refine lv_aload_n hx hb dX0_lay_273 rfl (lv_at hl 1 rfl) ?_
          refine va_get (D := (dC, dI)) (ci := 0) (v := .ref h1) (C := RX0) (T := TX0) (N := 4) hx hb hts in_X0 hown hK hP 0 rfl rfl 0 (by decide) (hts _ q13) (fun _ h9 => h9) rfl dX0_lay_274 ?_
          refine lv_aload_n hx hb dX0_lay_277 rfl (lv_at hl 1 rfl) ?_
          refine lv_dup hx hb dX0_lay_278 rfl ?_
          refine va_get (D := (dC, dI)) (ci := 0) (v := .int (nI (n + 3))) (C := RX0) (T := TX0) (N := 4) hx hb hts in_X0 hown hK hP 0 rfl rfl 2 (by decide) (hts _ q15) (fun _ h9 => h9) rfl dX0_lay_279 ?_
          refine lv_dup_x1 hx hb dX0_lay_282 rfl rfl ?_
          refine lv_iconst (v := nI 1) hx hb dX0_lay_283 (by decide) ?_
          refine lv_iadd hx hb dX0_lay_284 ?_
          refine wl_e (y := nI (n + 4)) (nI_add (n + 3) 1) ?_
          refine va_put (D := (dC, dI)) (ci := 0) (v := .int (nI (n + 4))) (ty := .int) (C := RX0) (T := TX0) (N := 4) hx hb hts in_X0 tyX0 tyX0_ok nmX0 hown hK hP hD hS 0 rfl rfl 2 (by decide) (hts _ q15) (fun _ h9 => h9) rfl (by decide +kernel) rfl rfl (Nat.le_of_ble_eq_true rfl) dX0_lay_285 (fun H locs hP hD hS => ?_)
          have hP : va_P (dC, dI) vwCl [(h0, .inr (0, [.ref h1, .ref h2, .int (nI (n + 4)), .int rd])), (h1, .inl (cB, 1024, .inl (wl_tb (wl_up (wl_up (wl_up b n (240 + v / 262144)) (n + 1) (128 + v / 4096 % 64)) (n + 2) (128 + v / 64 % 64))))), (h2, .inl (cC, 1024, .inl (wl_ti w)))] H := hP
          have hD : va_D A [(h0, .inr (0, [.ref h1, .ref h2, .int (nI (n + 4)), .int rd])), (h1, .inl (cB, 1024, .inl (wl_tb (wl_up (wl_up (wl_up b n (240 + v / 262144)) (n + 1) (128 + v / 4096 % 64)) (n + 2) (128 + v / 64 % 64))))), (h2, .inl (cC, 1024, .inl (wl_ti w)))] := hD
          refine lv_sipush (v := nI 128) hx hb dX0_lay_288 (by decide) ?_
          refine lv_iload_n hx hb dX0_lay_291 rfl (lv_at hl 0 rfl) ?_
          refine lv_bipush (v := nI 63) hx hb dX0_lay_292 (by decide) ?_
          refine lv_iand hx hb dX0_lay_294 ?_
          refine wl_e (y := nI (v % 64)) (pk_andN (by omega) 6 (by decide)) ?_
          refine lv_ior hx hb dX0_lay_295 ?_
          refine wl_e (y := nI (128 + v % 64)) (wl_orA (i := 6) (c := 2) (by omega) (by decide)) ?_
          refine lv_i2b (v := wl_B (128 + v % 64)) hx hb dX0_lay_296 (rfl) ?_
          refine wl_bast (F := wl_tb (wl_up (wl_up (wl_up (wl_up b n (240 + v / 262144)) (n + 1) (128 + v / 4096 % 64)) (n + 2) (128 + v / 64 % 64)) (n + 3) (128 + v % 64))) hx hb hK hP hD hS 1 0 rfl rfl (vp_in_nI (by omega) (by decide)) dX0_lay_297 (wl_upB (nI_clamp (by omega)) (wl_narB _)) (fun H locs hP hD hS => ?_)
          have hP : va_P (dC, dI) vwCl [(h0, .inr (0, [.ref h1, .ref h2, .int (nI (n + 4)), .int rd])), (h1, .inl (cB, 1024, .inl (wl_tb (wl_up (wl_up (wl_up (wl_up b n (240 + v / 262144)) (n + 1) (128 + v / 4096 % 64)) (n + 2) (128 + v / 64 % 64)) (n + 3) (128 + v % 64))))), (h2, .inl (cC, 1024, .inl (wl_ti w)))] H := hP
          have hD : va_D A [(h0, .inr (0, [.ref h1, .ref h2, .int (nI (n + 4)), .int rd])), (h1, .inl (cB, 1024, .inl (wl_tb (wl_up (wl_up (wl_up (wl_up b n (240 + v / 262144)) (n + 1) (128 + v / 4096 % 64)) (n + 2) (128 + v / 64 % 64)) (n + 3) (128 + v % 64))))), (h2, .inl (cC, 1024, .inl (wl_ti w)))] := hD
          refine lv_aload_n hx hb dX0_lay_298 rfl (lv_at hl 1 rfl) ?_
          refine va_get (D := (dC, dI)) (ci := 0) (v := .int (nI (n + 4))) (C := RX0) (T := TX0) (N := 4) hx hb hts in_X0 hown hK hP 0 rfl rfl 2 (by decide) (hts _ q15) (fun _ h9 => h9) rfl dX0_lay_299 ?_
          have eN : wl_layN n v = n + 4 := by rw [wl_layN, if_neg (by omega), if_neg (by omega), if_neg (by omega)]
          have eB : wl_layB n b v = wl_up (wl_up (wl_up (wl_up b n (240 + v / 262144)) (n + 1) (128 + v / 4096 % 64)) (n + 2) (128 + v / 64 % 64)) (n + 3) (128 + v % 64) := by rw [wl_layB, if_neg (by omega), if_neg (by omega), if_neg (by omega)]
          exact W.iret (v := nI (n + 4)) hx hb hr (fun t ht hW => ⟨⟨(nI (n + 4)), (n + 4, wl_up (wl_up (wl_up (wl_up b n (240 + v / 262144)) (n + 1) (128 + v / 4096 % 64)) (n + 2) (128 + v / 64 % 64)) (n + 3) (128 + v % 64), rd, w), rfl, ⟨by rw [el, eN], by rw [el, eN, eB]⟩, by rw [ht]; exact hP, hD⟩, hS.F ht⟩) hS.2.2 dX0_lay_302
        · refine lv_aload_n hx hb dX0_lay_111 rfl (lv_at hl 1 rfl) ?_
          refine va_get (D := (dC, dI)) (ci := 0) (v := .ref h1) (C := RX0) (T := TX0) (N := 4) hx hb hts in_X0 hown hK hP 0 rfl rfl 0 (by decide) (hts _ q13) (fun _ h9 => h9) rfl dX0_lay_112 ?_
          refine lv_aload_n hx hb dX0_lay_115 rfl (lv_at hl 1 rfl) ?_
          refine lv_dup hx hb dX0_lay_116 rfl ?_
          refine va_get (D := (dC, dI)) (ci := 0) (v := .int (nI n)) (C := RX0) (T := TX0) (N := 4) hx hb hts in_X0 hown hK hP 0 rfl rfl 2 (by decide) (hts _ q15) (fun _ h9 => h9) rfl dX0_lay_117 ?_
          refine lv_dup_x1 hx hb dX0_lay_120 rfl rfl ?_
          refine lv_iconst (v := nI 1) hx hb dX0_lay_121 (by decide) ?_
          refine lv_iadd hx hb dX0_lay_122 ?_
          refine wl_e (y := nI (n + 1)) (nI_add n 1) ?_
          refine va_put (D := (dC, dI)) (ci := 0) (v := .int (nI (n + 1))) (ty := .int) (C := RX0) (T := TX0) (N := 4) hx hb hts in_X0 tyX0 tyX0_ok nmX0 hown hK hP hD hS 0 rfl rfl 2 (by decide) (hts _ q15) (fun _ h9 => h9) rfl (by decide +kernel) rfl rfl (Nat.le_of_ble_eq_true rfl) dX0_lay_123 (fun H locs hP hD hS => ?_)
          have hP : va_P (dC, dI) vwCl [(h0, .inr (0, [.ref h1, .ref h2, .int (nI (n + 1)), .int rd])), (h1, .inl (cB, 1024, .inl (wl_tb b))), (h2, .inl (cC, 1024, .inl (wl_ti w)))] H := hP
          have hD : va_D A [(h0, .inr (0, [.ref h1, .ref h2, .int (nI (n + 1)), .int rd])), (h1, .inl (cB, 1024, .inl (wl_tb b))), (h2, .inl (cC, 1024, .inl (wl_ti w)))] := hD
          refine lv_sipush (v := nI 224) hx hb dX0_lay_126 (by decide) ?_
          refine lv_iload_n hx hb dX0_lay_129 rfl (lv_at hl 0 rfl) ?_
          refine lv_bipush (v := nI 12) hx hb dX0_lay_130 (by decide) ?_
          refine lv_ishr hx hb dX0_lay_132 ?_
          refine wl_e (y := nI (v / 4096)) (wl_shr (by omega) (by decide)) ?_
          refine lv_ior hx hb dX0_lay_133 ?_
          refine wl_e (y := nI (224 + v / 4096)) (wl_orA (i := 4) (c := 14) (by omega) (by decide)) ?_
          refine lv_i2b (v := wl_B (224 + v / 4096)) hx hb dX0_lay_134 (rfl) ?_
          refine wl_bast (F := wl_tb (wl_up b n (224 + v / 4096))) hx hb hK hP hD hS 1 0 rfl rfl (vp_in_nI (by omega) (by decide)) dX0_lay_135 (wl_upB (nI_clamp (by omega)) (wl_narB _)) (fun H locs hP hD hS => ?_)
          have hP : va_P (dC, dI) vwCl [(h0, .inr (0, [.ref h1, .ref h2, .int (nI (n + 1)), .int rd])), (h1, .inl (cB, 1024, .inl (wl_tb (wl_up b n (224 + v / 4096))))), (h2, .inl (cC, 1024, .inl (wl_ti w)))] H := hP
          have hD : va_D A [(h0, .inr (0, [.ref h1, .ref h2, .int (nI (n + 1)), .int rd])), (h1, .inl (cB, 1024, .inl (wl_tb (wl_up b n (224 + v / 4096))))), (h2, .inl (cC, 1024, .inl (wl_ti w)))] := hD
          refine lv_aload_n hx hb dX0_lay_136 rfl (lv_at hl 1 rfl) ?_
          refine va_get (D := (dC, dI)) (ci := 0) (v := .ref h1) (C := RX0) (T := TX0) (N := 4) hx hb hts in_X0 hown hK hP 0 rfl rfl 0 (by decide) (hts _ q13) (fun _ h9 => h9) rfl dX0_lay_137 ?_
          refine lv_aload_n hx hb dX0_lay_140 rfl (lv_at hl 1 rfl) ?_
          refine lv_dup hx hb dX0_lay_141 rfl ?_
          refine va_get (D := (dC, dI)) (ci := 0) (v := .int (nI (n + 1))) (C := RX0) (T := TX0) (N := 4) hx hb hts in_X0 hown hK hP 0 rfl rfl 2 (by decide) (hts _ q15) (fun _ h9 => h9) rfl dX0_lay_142 ?_
          refine lv_dup_x1 hx hb dX0_lay_145 rfl rfl ?_
          refine lv_iconst (v := nI 1) hx hb dX0_lay_146 (by decide) ?_
          refine lv_iadd hx hb dX0_lay_147 ?_
          refine wl_e (y := nI (n + 2)) (nI_add (n + 1) 1) ?_
          refine va_put (D := (dC, dI)) (ci := 0) (v := .int (nI (n + 2))) (ty := .int) (C := RX0) (T := TX0) (N := 4) hx hb hts in_X0 tyX0 tyX0_ok nmX0 hown hK hP hD hS 0 rfl rfl 2 (by decide) (hts _ q15) (fun _ h9 => h9) rfl (by decide +kernel) rfl rfl (Nat.le_of_ble_eq_true rfl) dX0_lay_148 (fun H locs hP hD hS => ?_)
          have hP : va_P (dC, dI) vwCl [(h0, .inr (0, [.ref h1, .ref h2, .int (nI (n + 2)), .int rd])), (h1, .inl (cB, 1024, .inl (wl_tb (wl_up b n (224 + v / 4096))))), (h2, .inl (cC, 1024, .inl (wl_ti w)))] H := hP
          have hD : va_D A [(h0, .inr (0, [.ref h1, .ref h2, .int (nI (n + 2)), .int rd])), (h1, .inl (cB, 1024, .inl (wl_tb (wl_up b n (224 + v / 4096))))), (h2, .inl (cC, 1024, .inl (wl_ti w)))] := hD
          refine lv_sipush (v := nI 128) hx hb dX0_lay_151 (by decide) ?_
          refine lv_iload_n hx hb dX0_lay_154 rfl (lv_at hl 0 rfl) ?_
          refine lv_bipush (v := nI 6) hx hb dX0_lay_155 (by decide) ?_
          refine lv_ishr hx hb dX0_lay_157 ?_
          refine wl_e (y := nI (v / 64)) (wl_shr (by omega) (by decide)) ?_
          refine lv_bipush (v := nI 63) hx hb dX0_lay_158 (by decide) ?_
          refine lv_iand hx hb dX0_lay_160 ?_
          refine wl_e (y := nI (v / 64 % 64)) (pk_andN (by omega) 6 (by decide)) ?_
          refine lv_ior hx hb dX0_lay_161 ?_
          refine wl_e (y := nI (128 + v / 64 % 64)) (wl_orA (i := 6) (c := 2) (by omega) (by decide)) ?_
          refine lv_i2b (v := wl_B (128 + v / 64 % 64)) hx hb dX0_lay_162 (rfl) ?_
          refine wl_bast (F := wl_tb (wl_up (wl_up b n (224 + v / 4096)) (n + 1) (128 + v / 64 % 64))) hx hb hK hP hD hS 1 0 rfl rfl (vp_in_nI (by omega) (by decide)) dX0_lay_163 (wl_upB (nI_clamp (by omega)) (wl_narB _)) (fun H locs hP hD hS => ?_)
          have hP : va_P (dC, dI) vwCl [(h0, .inr (0, [.ref h1, .ref h2, .int (nI (n + 2)), .int rd])), (h1, .inl (cB, 1024, .inl (wl_tb (wl_up (wl_up b n (224 + v / 4096)) (n + 1) (128 + v / 64 % 64))))), (h2, .inl (cC, 1024, .inl (wl_ti w)))] H := hP
          have hD : va_D A [(h0, .inr (0, [.ref h1, .ref h2, .int (nI (n + 2)), .int rd])), (h1, .inl (cB, 1024, .inl (wl_tb (wl_up (wl_up b n (224 + v / 4096)) (n + 1) (128 + v / 64 % 64))))), (h2, .inl (cC, 1024, .inl (wl_ti w)))] := hD
          refine lv_aload_n hx hb dX0_lay_164 rfl (lv_at hl 1 rfl) ?_
          refine va_get (D := (dC, dI)) (ci := 0) (v := .ref h1) (C := RX0) (T := TX0) (N := 4) hx hb hts in_X0 hown hK hP 0 rfl rfl 0 (by decide) (hts _ q13) (fun _ h9 => h9) rfl dX0_lay_165 ?_
          refine lv_aload_n hx hb dX0_lay_168 rfl (lv_at hl 1 rfl) ?_
          refine lv_dup hx hb dX0_lay_169 rfl ?_
          refine va_get (D := (dC, dI)) (ci := 0) (v := .int (nI (n + 2))) (C := RX0) (T := TX0) (N := 4) hx hb hts in_X0 hown hK hP 0 rfl rfl 2 (by decide) (hts _ q15) (fun _ h9 => h9) rfl dX0_lay_170 ?_
          refine lv_dup_x1 hx hb dX0_lay_173 rfl rfl ?_
          refine lv_iconst (v := nI 1) hx hb dX0_lay_174 (by decide) ?_
          refine lv_iadd hx hb dX0_lay_175 ?_
          refine wl_e (y := nI (n + 3)) (nI_add (n + 2) 1) ?_
          refine va_put (D := (dC, dI)) (ci := 0) (v := .int (nI (n + 3))) (ty := .int) (C := RX0) (T := TX0) (N := 4) hx hb hts in_X0 tyX0 tyX0_ok nmX0 hown hK hP hD hS 0 rfl rfl 2 (by decide) (hts _ q15) (fun _ h9 => h9) rfl (by decide +kernel) rfl rfl (Nat.le_of_ble_eq_true rfl) dX0_lay_176 (fun H locs hP hD hS => ?_)
          have hP : va_P (dC, dI) vwCl [(h0, .inr (0, [.ref h1, .ref h2, .int (nI (n + 3)), .int rd])), (h1, .inl (cB, 1024, .inl (wl_tb (wl_up (wl_up b n (224 + v / 4096)) (n + 1) (128 + v / 64 % 64))))), (h2, .inl (cC, 1024, .inl (wl_ti w)))] H := hP
          have hD : va_D A [(h0, .inr (0, [.ref h1, .ref h2, .int (nI (n + 3)), .int rd])), (h1, .inl (cB, 1024, .inl (wl_tb (wl_up (wl_up b n (224 + v / 4096)) (n + 1) (128 + v / 64 % 64))))), (h2, .inl (cC, 1024, .inl (wl_ti w)))] := hD
          refine lv_sipush (v := nI 128) hx hb dX0_lay_179 (by decide) ?_
          refine lv_iload_n hx hb dX0_lay_182 rfl (lv_at hl 0 rfl) ?_
          refine lv_bipush (v := nI 63) hx hb dX0_lay_183 (by decide) ?_
          refine lv_iand hx hb dX0_lay_185 ?_
          refine wl_e (y := nI (v % 64)) (pk_andN (by omega) 6 (by decide)) ?_
          refine lv_ior hx hb dX0_lay_186 ?_
          refine wl_e (y := nI (128 + v % 64)) (wl_orA (i := 6) (c := 2) (by omega) (by decide)) ?_
          refine lv_i2b (v := wl_B (128 + v % 64)) hx hb dX0_lay_187 (rfl) ?_
          refine wl_bast (F := wl_tb (wl_up (wl_up (wl_up b n (224 + v / 4096)) (n + 1) (128 + v / 64 % 64)) (n + 2) (128 + v % 64))) hx hb hK hP hD hS 1 0 rfl rfl (vp_in_nI (by omega) (by decide)) dX0_lay_188 (wl_upB (nI_clamp (by omega)) (wl_narB _)) (fun H locs hP hD hS => ?_)
          have hP : va_P (dC, dI) vwCl [(h0, .inr (0, [.ref h1, .ref h2, .int (nI (n + 3)), .int rd])), (h1, .inl (cB, 1024, .inl (wl_tb (wl_up (wl_up (wl_up b n (224 + v / 4096)) (n + 1) (128 + v / 64 % 64)) (n + 2) (128 + v % 64))))), (h2, .inl (cC, 1024, .inl (wl_ti w)))] H := hP
          have hD : va_D A [(h0, .inr (0, [.ref h1, .ref h2, .int (nI (n + 3)), .int rd])), (h1, .inl (cB, 1024, .inl (wl_tb (wl_up (wl_up (wl_up b n (224 + v / 4096)) (n + 1) (128 + v / 64 % 64)) (n + 2) (128 + v % 64))))), (h2, .inl (cC, 1024, .inl (wl_ti w)))] := hD
          refine lv_goto (tgt := 298) hx hb dX0_lay_189 (by decide) ?_
          refine lv_aload_n hx hb dX0_lay_298 rfl (lv_at hl 1 rfl) ?_
          refine va_get (D := (dC, dI)) (ci := 0) (v := .int (nI (n + 3))) (C := RX0) (T := TX0) (N := 4) hx hb hts in_X0 hown hK hP 0 rfl rfl 2 (by decide) (hts _ q15) (fun _ h9 => h9) rfl dX0_lay_299 ?_
          have eN : wl_layN n v = n + 3 := by rw [wl_layN, if_neg (by omega), if_neg (by omega), if_pos c2]
          have eB : wl_layB n b v = wl_up (wl_up (wl_up b n (224 + v / 4096)) (n + 1) (128 + v / 64 % 64)) (n + 2) (128 + v % 64) := by rw [wl_layB, if_neg (by omega), if_neg (by omega), if_pos c2]
          exact W.iret (v := nI (n + 3)) hx hb hr (fun t ht hW => ⟨⟨(nI (n + 3)), (n + 3, wl_up (wl_up (wl_up b n (224 + v / 4096)) (n + 1) (128 + v / 64 % 64)) (n + 2) (128 + v % 64), rd, w), rfl, ⟨by rw [el, eN], by rw [el, eN, eB]⟩, by rw [ht]; exact hP, hD⟩, hS.F ht⟩) hS.2.2 dX0_lay_302
      · refine lv_aload_n hx hb dX0_lay_52 rfl (lv_at hl 1 rfl) ?_
        refine va_get (D := (dC, dI)) (ci := 0) (v := .ref h1) (C := RX0) (T := TX0) (N := 4) hx hb hts in_X0 hown hK hP 0 rfl rfl 0 (by decide) (hts _ q13) (fun _ h9 => h9) rfl dX0_lay_53 ?_
        refine lv_aload_n hx hb dX0_lay_56 rfl (lv_at hl 1 rfl) ?_
        refine lv_dup hx hb dX0_lay_57 rfl ?_
        refine va_get (D := (dC, dI)) (ci := 0) (v := .int (nI n)) (C := RX0) (T := TX0) (N := 4) hx hb hts in_X0 hown hK hP 0 rfl rfl 2 (by decide) (hts _ q15) (fun _ h9 => h9) rfl dX0_lay_58 ?_
        refine lv_dup_x1 hx hb dX0_lay_61 rfl rfl ?_
        refine lv_iconst (v := nI 1) hx hb dX0_lay_62 (by decide) ?_
        refine lv_iadd hx hb dX0_lay_63 ?_
        refine wl_e (y := nI (n + 1)) (nI_add n 1) ?_
        refine va_put (D := (dC, dI)) (ci := 0) (v := .int (nI (n + 1))) (ty := .int) (C := RX0) (T := TX0) (N := 4) hx hb hts in_X0 tyX0 tyX0_ok nmX0 hown hK hP hD hS 0 rfl rfl 2 (by decide) (hts _ q15) (fun _ h9 => h9) rfl (by decide +kernel) rfl rfl (Nat.le_of_ble_eq_true rfl) dX0_lay_64 (fun H locs hP hD hS => ?_)
        have hP : va_P (dC, dI) vwCl [(h0, .inr (0, [.ref h1, .ref h2, .int (nI (n + 1)), .int rd])), (h1, .inl (cB, 1024, .inl (wl_tb b))), (h2, .inl (cC, 1024, .inl (wl_ti w)))] H := hP
        have hD : va_D A [(h0, .inr (0, [.ref h1, .ref h2, .int (nI (n + 1)), .int rd])), (h1, .inl (cB, 1024, .inl (wl_tb b))), (h2, .inl (cC, 1024, .inl (wl_ti w)))] := hD
        refine lv_sipush (v := nI 192) hx hb dX0_lay_67 (by decide) ?_
        refine lv_iload_n hx hb dX0_lay_70 rfl (lv_at hl 0 rfl) ?_
        refine lv_bipush (v := nI 6) hx hb dX0_lay_71 (by decide) ?_
        refine lv_ishr hx hb dX0_lay_73 ?_
        refine wl_e (y := nI (v / 64)) (wl_shr (by omega) (by decide)) ?_
        refine lv_ior hx hb dX0_lay_74 ?_
        refine wl_e (y := nI (192 + v / 64)) (wl_orA (i := 5) (c := 6) (by omega) (by decide)) ?_
        refine lv_i2b (v := wl_B (192 + v / 64)) hx hb dX0_lay_75 (rfl) ?_
        refine wl_bast (F := wl_tb (wl_up b n (192 + v / 64))) hx hb hK hP hD hS 1 0 rfl rfl (vp_in_nI (by omega) (by decide)) dX0_lay_76 (wl_upB (nI_clamp (by omega)) (wl_narB _)) (fun H locs hP hD hS => ?_)
        have hP : va_P (dC, dI) vwCl [(h0, .inr (0, [.ref h1, .ref h2, .int (nI (n + 1)), .int rd])), (h1, .inl (cB, 1024, .inl (wl_tb (wl_up b n (192 + v / 64))))), (h2, .inl (cC, 1024, .inl (wl_ti w)))] H := hP
        have hD : va_D A [(h0, .inr (0, [.ref h1, .ref h2, .int (nI (n + 1)), .int rd])), (h1, .inl (cB, 1024, .inl (wl_tb (wl_up b n (192 + v / 64))))), (h2, .inl (cC, 1024, .inl (wl_ti w)))] := hD
        refine lv_aload_n hx hb dX0_lay_77 rfl (lv_at hl 1 rfl) ?_
        refine va_get (D := (dC, dI)) (ci := 0) (v := .ref h1) (C := RX0) (T := TX0) (N := 4) hx hb hts in_X0 hown hK hP 0 rfl rfl 0 (by decide) (hts _ q13) (fun _ h9 => h9) rfl dX0_lay_78 ?_
        refine lv_aload_n hx hb dX0_lay_81 rfl (lv_at hl 1 rfl) ?_
        refine lv_dup hx hb dX0_lay_82 rfl ?_
        refine va_get (D := (dC, dI)) (ci := 0) (v := .int (nI (n + 1))) (C := RX0) (T := TX0) (N := 4) hx hb hts in_X0 hown hK hP 0 rfl rfl 2 (by decide) (hts _ q15) (fun _ h9 => h9) rfl dX0_lay_83 ?_
        refine lv_dup_x1 hx hb dX0_lay_86 rfl rfl ?_
        refine lv_iconst (v := nI 1) hx hb dX0_lay_87 (by decide) ?_
        refine lv_iadd hx hb dX0_lay_88 ?_
        refine wl_e (y := nI (n + 2)) (nI_add (n + 1) 1) ?_
        refine va_put (D := (dC, dI)) (ci := 0) (v := .int (nI (n + 2))) (ty := .int) (C := RX0) (T := TX0) (N := 4) hx hb hts in_X0 tyX0 tyX0_ok nmX0 hown hK hP hD hS 0 rfl rfl 2 (by decide) (hts _ q15) (fun _ h9 => h9) rfl (by decide +kernel) rfl rfl (Nat.le_of_ble_eq_true rfl) dX0_lay_89 (fun H locs hP hD hS => ?_)
        have hP : va_P (dC, dI) vwCl [(h0, .inr (0, [.ref h1, .ref h2, .int (nI (n + 2)), .int rd])), (h1, .inl (cB, 1024, .inl (wl_tb (wl_up b n (192 + v / 64))))), (h2, .inl (cC, 1024, .inl (wl_ti w)))] H := hP
        have hD : va_D A [(h0, .inr (0, [.ref h1, .ref h2, .int (nI (n + 2)), .int rd])), (h1, .inl (cB, 1024, .inl (wl_tb (wl_up b n (192 + v / 64))))), (h2, .inl (cC, 1024, .inl (wl_ti w)))] := hD
        refine lv_sipush (v := nI 128) hx hb dX0_lay_92 (by decide) ?_
        refine lv_iload_n hx hb dX0_lay_95 rfl (lv_at hl 0 rfl) ?_
        refine lv_bipush (v := nI 63) hx hb dX0_lay_96 (by decide) ?_
        refine lv_iand hx hb dX0_lay_98 ?_
        refine wl_e (y := nI (v % 64)) (pk_andN (by omega) 6 (by decide)) ?_
        refine lv_ior hx hb dX0_lay_99 ?_
        refine wl_e (y := nI (128 + v % 64)) (wl_orA (i := 6) (c := 2) (by omega) (by decide)) ?_
        refine lv_i2b (v := wl_B (128 + v % 64)) hx hb dX0_lay_100 (rfl) ?_
        refine wl_bast (F := wl_tb (wl_up (wl_up b n (192 + v / 64)) (n + 1) (128 + v % 64))) hx hb hK hP hD hS 1 0 rfl rfl (vp_in_nI (by omega) (by decide)) dX0_lay_101 (wl_upB (nI_clamp (by omega)) (wl_narB _)) (fun H locs hP hD hS => ?_)
        have hP : va_P (dC, dI) vwCl [(h0, .inr (0, [.ref h1, .ref h2, .int (nI (n + 2)), .int rd])), (h1, .inl (cB, 1024, .inl (wl_tb (wl_up (wl_up b n (192 + v / 64)) (n + 1) (128 + v % 64))))), (h2, .inl (cC, 1024, .inl (wl_ti w)))] H := hP
        have hD : va_D A [(h0, .inr (0, [.ref h1, .ref h2, .int (nI (n + 2)), .int rd])), (h1, .inl (cB, 1024, .inl (wl_tb (wl_up (wl_up b n (192 + v / 64)) (n + 1) (128 + v % 64))))), (h2, .inl (cC, 1024, .inl (wl_ti w)))] := hD
        refine lv_goto (tgt := 298) hx hb dX0_lay_102 (by decide) ?_
        refine lv_aload_n hx hb dX0_lay_298 rfl (lv_at hl 1 rfl) ?_
        refine va_get (D := (dC, dI)) (ci := 0) (v := .int (nI (n + 2))) (C := RX0) (T := TX0) (N := 4) hx hb hts in_X0 hown hK hP 0 rfl rfl 2 (by decide) (hts _ q15) (fun _ h9 => h9) rfl dX0_lay_299 ?_
        have eN : wl_layN n v = n + 2 := by rw [wl_layN, if_neg (by omega), if_pos c1]
        have eB : wl_layB n b v = wl_up (wl_up b n (192 + v / 64)) (n + 1) (128 + v % 64) := by rw [wl_layB, if_neg (by omega), if_pos c1]
        exact W.iret (v := nI (n + 2)) hx hb hr (fun t ht hW => ⟨⟨(nI (n + 2)), (n + 2, wl_up (wl_up b n (192 + v / 64)) (n + 1) (128 + v % 64), rd, w), rfl, ⟨by rw [el, eN], by rw [el, eN, eB]⟩, by rw [ht]; exact hP, hD⟩, hS.F ht⟩) hS.2.2 dX0_lay_302
    · refine lv_aload_n hx hb dX0_lay_24 rfl (lv_at hl 1 rfl) ?_
      refine va_get (D := (dC, dI)) (ci := 0) (v := .ref h1) (C := RX0) (T := TX0) (N := 4) hx hb hts in_X0 hown hK hP 0 rfl rfl 0 (by decide) (hts _ q13) (fun _ h9 => h9) rfl dX0_lay_25 ?_
      refine lv_aload_n hx hb dX0_lay_28 rfl (lv_at hl 1 rfl) ?_
      refine lv_dup hx hb dX0_lay_29 rfl ?_
      refine va_get (D := (dC, dI)) (ci := 0) (v := .int (nI n)) (C := RX0) (T := TX0) (N := 4) hx hb hts in_X0 hown hK hP 0 rfl rfl 2 (by decide) (hts _ q15) (fun _ h9 => h9) rfl dX0_lay_30 ?_
      refine lv_dup_x1 hx hb dX0_lay_33 rfl rfl ?_
      refine lv_iconst (v := nI 1) hx hb dX0_lay_34 (by decide) ?_
      refine lv_iadd hx hb dX0_lay_35 ?_
      refine wl_e (y := nI (n + 1)) (nI_add n 1) ?_
      refine va_put (D := (dC, dI)) (ci := 0) (v := .int (nI (n + 1))) (ty := .int) (C := RX0) (T := TX0) (N := 4) hx hb hts in_X0 tyX0 tyX0_ok nmX0 hown hK hP hD hS 0 rfl rfl 2 (by decide) (hts _ q15) (fun _ h9 => h9) rfl (by decide +kernel) rfl rfl (Nat.le_of_ble_eq_true rfl) dX0_lay_36 (fun H locs hP hD hS => ?_)
      have hP : va_P (dC, dI) vwCl [(h0, .inr (0, [.ref h1, .ref h2, .int (nI (n + 1)), .int rd])), (h1, .inl (cB, 1024, .inl (wl_tb b))), (h2, .inl (cC, 1024, .inl (wl_ti w)))] H := hP
      have hD : va_D A [(h0, .inr (0, [.ref h1, .ref h2, .int (nI (n + 1)), .int rd])), (h1, .inl (cB, 1024, .inl (wl_tb b))), (h2, .inl (cC, 1024, .inl (wl_ti w)))] := hD
      refine lv_iload_n hx hb dX0_lay_39 rfl (lv_at hl 0 rfl) ?_
      refine lv_i2b (v := wl_B (v)) hx hb dX0_lay_40 (rfl) ?_
      refine wl_bast (F := wl_tb (wl_up b n (v))) hx hb hK hP hD hS 1 0 rfl rfl (vp_in_nI (by omega) (by decide)) dX0_lay_41 (wl_upB (nI_clamp (by omega)) (wl_narB _)) (fun H locs hP hD hS => ?_)
      have hP : va_P (dC, dI) vwCl [(h0, .inr (0, [.ref h1, .ref h2, .int (nI (n + 1)), .int rd])), (h1, .inl (cB, 1024, .inl (wl_tb (wl_up b n (v))))), (h2, .inl (cC, 1024, .inl (wl_ti w)))] H := hP
      have hD : va_D A [(h0, .inr (0, [.ref h1, .ref h2, .int (nI (n + 1)), .int rd])), (h1, .inl (cB, 1024, .inl (wl_tb (wl_up b n (v))))), (h2, .inl (cC, 1024, .inl (wl_ti w)))] := hD
      refine lv_goto (tgt := 298) hx hb dX0_lay_42 (by decide) ?_
      refine lv_aload_n hx hb dX0_lay_298 rfl (lv_at hl 1 rfl) ?_
      refine va_get (D := (dC, dI)) (ci := 0) (v := .int (nI (n + 1))) (C := RX0) (T := TX0) (N := 4) hx hb hts in_X0 hown hK hP 0 rfl rfl 2 (by decide) (hts _ q15) (fun _ h9 => h9) rfl dX0_lay_299 ?_
      have eN : wl_layN n v = n + 1 := by rw [wl_layN, if_pos c0]
      have eB : wl_layB n b v = wl_up b n (v) := by rw [wl_layB, if_pos c0]
      exact W.iret (v := nI (n + 1)) hx hb hr (fun t ht hW => ⟨⟨(nI (n + 1)), (n + 1, wl_up b n (v), rd, w), rfl, ⟨by rw [el, eN], by rw [el, eN, eB]⟩, by rw [ht]; exact hP, hD⟩, hS.F ht⟩) hS.2.2 dX0_lay_302
  · have el : wl_lay n b p0 = (-1, n, b) := if_pos q
    refine lv_iconst (v := (-1)) hx hb dX0_lay_10 (by decide) ?_
    exact W.iret (v := -1) hx hb hr (fun t ht hW => ⟨⟨(-1), (n, b, rd, w), rfl, ⟨by rw [el], by rw [el]⟩, by rw [ht]; exact hP, hD⟩, hS.F ht⟩) hS.2.2 dX0_lay_11
end
section
/-! WireLettersModel: contracts of its small methods -/
abbrev wsX1_init : List Cond := ws_ yX1_init cX1_init 1 none
set_option maxHeartbeats 4000000 in
set_option maxRecDepth 100000 in
/-- a new object: two new arrays of 1024 places -/
theorem metX1_init (l : Launch) (dC : Nat → ClassId) (dI : Nat → Nat → Nat) (h0 : Nat) (sz : Nat) : Met l yX1_init wsX1_init ({ frames := 1, cells := 2, slots := 2048, locals := 12 }) (va_Pc [.ref h0] (fun U => U.heap.size = sz ∧ va_P (dC, dI) vwCl [(h0, .inr (1, [.null, .null, .int 0, .int 0]))] U.heap ∧ va_K (dC, dI) vwCl [] U ∧ va_D (fun _ => True) [(h0, .inr (1, [.null, .null, .int 0, .int 0]))])) (va_Qv (fun (u : Nat × Nat × ClassId × ClassId) => True) (BI1 dC dI (va_A [(h0, .inr (1, [.null, .null, .int 0, .int 0]))] sz) h0) (va_A [(h0, .inr (1, [.null, .null, .int 0, .int 0]))] sz)) 2 2048 (va_A [(h0, .inr (1, [.null, .null, .int 0, .int 0]))] sz) := by
  refine Met.ofW (cc := cX1_init) (maxL := 1) (ret := none) (by decide) rfl ?_
  intro p e s m args below meth c s₁ B hml hv
  obtain ⟨rfl, hsz, hP, hK, hD0⟩ := hv
  have hx := B.exec
  have hb := B.bytes
  have hr := B.returns
  have hts := atoms_spec (ws := wsX1_init) B.pre
  have hts : ∀ w ∈ lw_all, w.before _ s = true := fun w h => hts w (List.mem_cons_of_mem _ h)
  have hown : s.vm.findClass RX1 = some m.cls := findClass_of_methodNamed B.named
  have hlocks := B.notSynchronized
  have hin : meth.name = "<init>" := (name_of_methodNamed B.named B.method).1
  subst hsz
  have hD := hD0.self (sz := s.heap.size)
  generalize hAe : va_A [(h0, .inr (1, [.null, .null, .int 0, .int 0]))] s.heap.size = A at hD ⊢
  have hA : ∀ q : Nat, s.heap.size ≤ q → A q := fun q h => by rw [← hAe]; exact Or.inr h
  have hS : va_S A s.heap s.heap [] := va_S.rf
  have hP : va_P (dC, dI) vwCl [(h0, .inr (1, [.null, .null, .int 0, .int 0]))] s.heap := hP
  have hD : va_D A [(h0, .inr (1, [.null, .null, .int 0, .int 0]))] := hD
  have hl := lv_entry ([.ref h0]) (n := 1) (Nat.le_of_ble_eq_true rfl)
  rw [lg_entry_eq]
  generalize (lg_sl ([.ref h0]) ++ List.replicate (1 - (lg_sl ([.ref h0])).length) Slot.unset).toArray = ls at hl ⊢
  have hl : lv_has ls 1 [(0, .ref h0)] := hl
  refine lv_aload_n hx hb dX1_init_0 rfl (lv_at hl 0 rfl) ?_
  refine W.objInit hx hb hown (hts _ q70) (hts _ q11) (hts _ q12) rfl (by rw [hml]; exact hl.1) rfl dX1_init_1 (Nat.le_of_ble_eq_true rfl) (Nat.le_of_ble_eq_true rfl) ?_
  refine W.eq (g2 := F0 m 4 ls []) rfl ?_
  refine lv_aload_n hx hb dX1_init_4 rfl (lv_at hl 0 rfl) ?_
  refine lv_sipush (v := nI 1024) hx hb dX1_init_5 (by decide) ?_
  refine va_newa (atype := .int) (ty := .int) (a0 := (1024, .inl (wl_ti (fun _ => 0)))) (N' := 1024) hx hb (hts _ q84) rfl hK hP hD hS hA (fun cA => by rw [← wl_ti0]; rfl) (by decide) (by decide) (Nat.le_of_ble_eq_true rfl) (Nat.le_of_ble_eq_true rfl) (Nat.le_of_ble_eq_true rfl) dX1_init_8 (fun h1 cB H hK hP hD hS => ?_)
  have hP : va_P (dC, dI) vwCl [(h0, .inr (1, [.null, .null, .int 0, .int 0])), (h1, .inl (cB, 1024, .inl (wl_ti (fun _ => 0))))] H := hP
  have hD : va_D A [(h0, .inr (1, [.null, .null, .int 0, .int 0])), (h1, .inl (cB, 1024, .inl (wl_ti (fun _ => 0))))] := hD
  have hK : va_K (dC, dI) vwCl [(cB, .int)] s := hK
  refine W.widen (k := 1) (n := 1024) (Nat.le_of_ble_eq_true rfl) (Nat.le_of_ble_eq_true rfl) ?_
  refine va_putF (D := (dC, dI)) (ci := 1) (v := .ref h1) (ty := .array .int) (C := RX1) (T := TX1) (N := 4) hx hb hts in_X1 tyX1 tyX1_ok nmX1 hown hK hP hD hS 0 rfl rfl 0 (by decide) (hts _ q71) (fun _ h9 => h9) rfl hin rfl (by decide +kernel) rfl rfl (Nat.le_of_ble_eq_true rfl) dX1_init_10 (fun H locs hP hD hS => ?_)
  have hP : va_P (dC, dI) vwCl [(h0, .inr (1, [.ref h1, .null, .int 0, .int 0])), (h1, .inl (cB, 1024, .inl (wl_ti (fun _ => 0))))] H := hP
  have hD : va_D A [(h0, .inr (1, [.ref h1, .null, .int 0, .int 0])), (h1, .inl (cB, 1024, .inl (wl_ti (fun _ => 0))))] := hD
  refine lv_aload_n hx hb dX1_init_13 rfl (lv_at hl 0 rfl) ?_
  refine lv_sipush (v := nI 1024) hx hb dX1_init_14 (by decide) ?_
  refine va_newa (atype := .int) (ty := .int) (a0 := (1024, .inl (wl_ti (fun _ => 0)))) (N' := 1024) hx hb (hts _ q84) rfl hK hP hD hS hA (fun cA => by rw [← wl_ti0]; rfl) (by decide) (by decide) (Nat.le_of_ble_eq_true rfl) (Nat.le_of_ble_eq_true rfl) (Nat.le_of_ble_eq_true rfl) dX1_init_17 (fun h2 cC H hK hP hD hS => ?_)
  have hP : va_P (dC, dI) vwCl [(h0, .inr (1, [.ref h1, .null, .int 0, .int 0])), (h1, .inl (cB, 1024, .inl (wl_ti (fun _ => 0)))), (h2, .inl (cC, 1024, .inl (wl_ti (fun _ => 0))))] H := hP
  have hD : va_D A [(h0, .inr (1, [.ref h1, .null, .int 0, .int 0])), (h1, .inl (cB, 1024, .inl (wl_ti (fun _ => 0)))), (h2, .inl (cC, 1024, .inl (wl_ti (fun _ => 0))))] := hD
  have hK : va_K (dC, dI) vwCl [(cB, .int), (cC, .int)] s := hK
  refine W.widen (k := 2) (n := 2048) (Nat.le_of_ble_eq_true rfl) (Nat.le_of_ble_eq_true rfl) ?_
  refine va_putF (D := (dC, dI)) (ci := 1) (v := .ref h2) (ty := .array .int) (C := RX1) (T := TX1) (N := 4) hx hb hts in_X1 tyX1 tyX1_ok nmX1 hown hK hP hD hS 0 rfl rfl 1 (by decide) (hts _ q72) (fun _ h9 => h9) rfl hin rfl (by decide +kernel) rfl rfl (Nat.le_of_ble_eq_true rfl) dX1_init_19 (fun H locs hP hD hS => ?_)
  have hP : va_P (dC, dI) vwCl [(h0, .inr (1, [.ref h1, .ref h2, .int 0, .int 0])), (h1, .inl (cB, 1024, .inl (wl_ti (fun _ => 0)))), (h2, .inl (cC, 1024, .inl (wl_ti (fun _ => 0))))] H := hP
  have hD : va_D A [(h0, .inr (1, [.ref h1, .ref h2, .int 0, .int 0])), (h1, .inl (cB, 1024, .inl (wl_ti (fun _ => 0)))), (h2, .inl (cC, 1024, .inl (wl_ti (fun _ => 0))))] := hD
  exact W.vret hx hb hr (fun t ht hW => ⟨⟨(h1, h2, cB, cC), rfl, trivial, by rw [ht]; exact hP, va_K.moved hW.alike hK, hD⟩, hS.F ht⟩) hS.2.2 dX1_init_22
abbrev wsX1_size : List Cond := ws_ yX1_size cX1_size 1 (some .int)
set_option maxHeartbeats 4000000 in
set_option maxRecDepth 100000 in
/-- size() -/
theorem metX1_size (l : Launch) (dC : Nat → ClassId) (dI : Nat → Nat → Nat) (h0 h1 h2 : Nat) (cB cC : ClassId) (sz : Nat) (n : Nat) (b : Nat → Nat) (rd : Int32) (w : Nat → Nat) : Met l yX1_size wsX1_size ({ frames := 0, cells := 0, slots := 0, locals := 0 }) (va_Pc [.ref h0] (fun U => U.heap.size = sz ∧ va_P (dC, dI) vwCl (wX1 h0 h1 h2 cB cC n b rd w) U.heap ∧ va_K (dC, dI) vwCl [(cB, .int), (cC, .int)] U ∧ va_D (fun _ => True) (wX1 h0 h1 h2 cB cC n b rd w))) (va_Qi (fun (r : Int32) (u : wl_S) => r = nI n ∧ u = (n, b, rd, w)) (BX1 dC dI (va_A (wX1 h0 h1 h2 cB cC n b rd w) sz) h0 h1 h2 cB cC) (va_A (wX1 h0 h1 h2 cB cC n b rd w) sz)) 0 0 (va_A (wX1 h0 h1 h2 cB cC n b rd w) sz) := by
  refine Met.ofW (cc := cX1_size) (maxL := 1) (ret := (some .int)) (by decide) rfl ?_
  intro p e s m args below meth c s₁ B hml hv
  obtain ⟨rfl, hsz, hP, hK, hD0⟩ := hv
  have hx := B.exec
  have hb := B.bytes
  have hr := B.returns
  have hts := atoms_spec (ws := wsX1_size) B.pre
  have hts : ∀ w ∈ lw_all, w.before _ s = true := fun w h => hts w (List.mem_cons_of_mem _ h)
  have hown : s.vm.findClass RX1 = some m.cls := findClass_of_methodNamed B.named
  have hlocks := B.notSynchronized
  subst hsz
  have hD := hD0.self (sz := s.heap.size)
  generalize hAe : va_A (wX1 h0 h1 h2 cB cC n b rd w) s.heap.size = A at hD ⊢
  have hA : ∀ q : Nat, s.heap.size ≤ q → A q := fun q h => by rw [← hAe]; exact Or.inr h
  have hS : va_S A s.heap s.heap [] := va_S.rf
  have hP : va_P (dC, dI) vwCl [(h0, .inr (1, [.ref h1, .ref h2, .int (nI n), .int rd])), (h1, .inl (cB, 1024, .inl (wl_ti b))), (h2, .inl (cC, 1024, .inl (wl_ti w)))] s.heap := hP
  have hD : va_D A [(h0, .inr (1, [.ref h1, .ref h2, .int (nI n), .int rd])), (h1, .inl (cB, 1024, .inl (wl_ti b))), (h2, .inl (cC, 1024, .inl (wl_ti w)))] := hD
  have hl := lv_entry ([.ref h0]) (n := 1) (Nat.le_of_ble_eq_true rfl)
  rw [lg_entry_eq]
  generalize (lg_sl ([.ref h0]) ++ List.replicate (1 - (lg_sl ([.ref h0])).length) Slot.unset).toArray = ls at hl ⊢
  have hl : lv_has ls 1 [(0, .ref h0)] := hl
  refine lv_aload_n hx hb dX1_size_0 rfl (lv_at hl 0 rfl) ?_
  refine va_get (D := (dC, dI)) (ci := 1) (v := .int (nI n)) (C := RX1) (T := TX1) (N := 4) hx hb hts in_X1 hown hK hP 0 rfl rfl 2 (by decide) (hts _ q73) (fun _ h9 => h9) rfl dX1_size_1 ?_
  exact W.iret (v := nI n) hx hb hr (fun t ht hW => ⟨⟨(nI n), (n, b, rd, w), rfl, ⟨rfl, rfl⟩, by rw [ht]; exact hP, hD⟩, hS.F ht⟩) hS.2.2 dX1_size_4
abbrev wsX1_cut : List Cond := ws_ yX1_cut cX1_cut 2 none
set_option maxHeartbeats 4000000 in
set_option maxRecDepth 100000 in
/-- cut(n): the size falls -/
theorem metX1_cut (l : Launch) (dC : Nat → ClassId) (dI : Nat → Nat → Nat) (h0 h1 h2 : Nat) (cB cC : ClassId) (sz : Nat) (n : Nat) (b : Nat → Nat) (rd : Int32) (w : Nat → Nat) (p0 : Int32) (hn : n ≤ 1024) : Met l yX1_cut wsX1_cut ({ frames := 0, cells := 0, slots := 0, locals := 0 }) (va_Pc [.ref h0, .int p0] (fun U => U.heap.size = sz ∧ va_P (dC, dI) vwCl (wX1 h0 h1 h2 cB cC n b rd w) U.heap ∧ va_K (dC, dI) vwCl [(cB, .int), (cC, .int)] U ∧ va_D (fun _ => True) (wX1 h0 h1 h2 cB cC n b rd w))) (va_Qv (fun (u : wl_S) => u = (wl_cut n p0, b, rd, w)) (BX1 dC dI (va_A (wX1 h0 h1 h2 cB cC n b rd w) sz) h0 h1 h2 cB cC) (va_A (wX1 h0 h1 h2 cB cC n b rd w) sz)) 0 0 (va_A (wX1 h0 h1 h2 cB cC n b rd w) sz) := by
  refine Met.ofW (cc := cX1_cut) (maxL := 2) (ret := none) (by decide) rfl ?_
  intro p e s m args below meth c s₁ B hml hv
  obtain ⟨rfl, hsz, hP, hK, hD0⟩ := hv
  have hx := B.exec
  have hb := B.bytes
  have hr := B.returns
  have hts := atoms_spec (ws := wsX1_cut) B.pre
  have hts : ∀ w ∈ lw_all, w.before _ s = true := fun w h => hts w (List.mem_cons_of_mem _ h)
  have hown : s.vm.findClass RX1 = some m.cls := findClass_of_methodNamed B.named
  have hlocks := B.notSynchronized
  subst hsz
  have hD := hD0.self (sz := s.heap.size)
  generalize hAe : va_A (wX1 h0 h1 h2 cB cC n b rd w) s.heap.size = A at hD ⊢
  have hA : ∀ q : Nat, s.heap.size ≤ q → A q := fun q h => by rw [← hAe]; exact Or.inr h
  have hS : va_S A s.heap s.heap [] := va_S.rf
  have hP : va_P (dC, dI) vwCl [(h0, .inr (1, [.ref h1, .ref h2, .int (nI n), .int rd])), (h1, .inl (cB, 1024, .inl (wl_ti b))), (h2, .inl (cC, 1024, .inl (wl_ti w)))] s.heap := hP
  have hD : va_D A [(h0, .inr (1, [.ref h1, .ref h2, .int (nI n), .int rd])), (h1, .inl (cB, 1024, .inl (wl_ti b))), (h2, .inl (cC, 1024, .inl (wl_ti w)))] := hD
  have hl := lv_entry ([.ref h0, .int p0]) (n := 2) (Nat.le_of_ble_eq_true rfl)
  rw [lg_entry_eq]
  generalize (lg_sl ([.ref h0, .int p0]) ++ List.replicate (2 - (lg_sl ([.ref h0, .int p0])).length) Slot.unset).toArray = ls at hl ⊢
  have hl : lv_has ls 2 [(0, .ref h0), (1, .int p0)] := hl
  refine lv_aload_n hx hb dX1_cut_0 rfl (lv_at hl 0 rfl) ?_
  refine lv_iload_n hx hb dX1_cut_1 rfl (lv_at hl 1 rfl) ?_
  refine lv_ldc hx hb hown (hts _ q99) dX1_cut_2 ?_
  refine wl_e (y := nI 2147483647) (rfl) ?_
  refine lv_iand hx hb dX1_cut_4 ?_
  refine wl_e (y := nI (wl_m31 p0)) (wl_and31 p0) ?_
  refine lv_aload_n hx hb dX1_cut_5 rfl (lv_at hl 0 rfl) ?_
  refine va_get (D := (dC, dI)) (ci := 1) (v := .int (nI n)) (C := RX1) (T := TX1) (N := 4) hx hb hts in_X1 hown hK hP 0 rfl rfl 2 (by decide) (hts _ q73) (fun _ h9 => h9) rfl dX1_cut_6 ?_
  refine lv_iconst (v := nI 1) hx hb dX1_cut_9 (by decide) ?_
  refine lv_iadd hx hb dX1_cut_10 ?_
  refine wl_e (y := nI (n + 1)) (nI_add n 1) ?_
  refine lv_irem hx hb dX1_cut_11 (nI_ne0 (Nat.succ_pos n) (by omega)) ?_
  refine wl_e (y := nI (wl_cut n p0)) (wl_rem p0 (Nat.succ_pos n) (by omega)) ?_
  refine va_put (D := (dC, dI)) (ci := 1) (v := .int (nI (wl_cut n p0))) (ty := .int) (C := RX1) (T := TX1) (N := 4) hx hb hts in_X1 tyX1 tyX1_ok nmX1 hown hK hP hD hS 0 rfl rfl 2 (by decide) (hts _ q73) (fun _ h9 => h9) rfl (by decide +kernel) rfl rfl (Nat.le_of_ble_eq_true rfl) dX1_cut_12 (fun H locs hP hD hS => ?_)
  have hP : va_P (dC, dI) vwCl [(h0, .inr (1, [.ref h1, .ref h2, .int (nI (wl_cut n p0)), .int rd])), (h1, .inl (cB, 1024, .inl (wl_ti b))), (h2, .inl (cC, 1024, .inl (wl_ti w)))] H := hP
  have hD : va_D A [(h0, .inr (1, [.ref h1, .ref h2, .int (nI (wl_cut n p0)), .int rd])), (h1, .inl (cB, 1024, .inl (wl_ti b))), (h2, .inl (cC, 1024, .inl (wl_ti w)))] := hD
  exact W.vret hx hb hr (fun t ht hW => ⟨⟨(wl_cut n p0, b, rd, w), rfl, rfl, by rw [ht]; exact hP, hD⟩, hS.F ht⟩) hS.2.2 dX1_cut_15
abbrev wsX1_spoil : List Cond := ws_ yX1_spoil cX1_spoil 3 none
set_option maxHeartbeats 4000000 in
set_option maxRecDepth 100000 in
/-- spoil(at, x): one byte is changed, if there is one -/
theorem metX1_spoil (l : Launch) (dC : Nat → ClassId) (dI : Nat → Nat → Nat) (h0 h1 h2 : Nat) (cB cC : ClassId) (sz : Nat) (n : Nat) (b : Nat → Nat) (rd : Int32) (w : Nat → Nat) (p0 : Int32) (p1 : Int32) (hn : n ≤ 1024) : Met l yX1_spoil wsX1_spoil ({ frames := 0, cells := 0, slots := 0, locals := 0 }) (va_Pc [.ref h0, .int p0, .int p1] (fun U => U.heap.size = sz ∧ va_P (dC, dI) vwCl (wX1 h0 h1 h2 cB cC n b rd w) U.heap ∧ va_K (dC, dI) vwCl [(cB, .int), (cC, .int)] U ∧ va_D (fun _ => True) (wX1 h0 h1 h2 cB cC n b rd w))) (va_Qv (fun (u : wl_S) => u = (n, wl_spoil n b p0 p1, rd, w)) (BX1 dC dI (va_A (wX1 h0 h1 h2 cB cC n b rd w) sz) h0 h1 h2 cB cC) (va_A (wX1 h0 h1 h2 cB cC n b rd w) sz)) 0 0 (va_A (wX1 h0 h1 h2 cB cC n b rd w) sz) := by
  refine Met.ofW (cc := cX1_spoil) (maxL := 3) (ret := none) (by decide) rfl ?_
  intro p e s m args below meth c s₁ B hml hv
  obtain ⟨rfl, hsz, hP, hK, hD0⟩ := hv
  have hx := B.exec
  have hb := B.bytes
  have hr := B.returns
  have hts := atoms_spec (ws := wsX1_spoil) B.pre
  have hts : ∀ w ∈ lw_all, w.before _ s = true := fun w h => hts w (List.mem_cons_of_mem _ h)
  have hown : s.vm.findClass RX1 = some m.cls := findClass_of_methodNamed B.named
  have hlocks := B.notSynchronized
  subst hsz
  have hD := hD0.self (sz := s.heap.size)
  generalize hAe : va_A (wX1 h0 h1 h2 cB cC n b rd w) s.heap.size = A at hD ⊢
  have hA : ∀ q : Nat, s.heap.size ≤ q → A q := fun q h => by rw [← hAe]; exact Or.inr h
  have hS : va_S A s.heap s.heap [] := va_S.rf
  have hP : va_P (dC, dI) vwCl [(h0, .inr (1, [.ref h1, .ref h2, .int (nI n), .int rd])), (h1, .inl (cB, 1024, .inl (wl_ti b))), (h2, .inl (cC, 1024, .inl (wl_ti w)))] s.heap := hP
  have hD : va_D A [(h0, .inr (1, [.ref h1, .ref h2, .int (nI n), .int rd])), (h1, .inl (cB, 1024, .inl (wl_ti b))), (h2, .inl (cC, 1024, .inl (wl_ti w)))] := hD
  have hl := lv_entry ([.ref h0, .int p0, .int p1]) (n := 3) (Nat.le_of_ble_eq_true rfl)
  rw [lg_entry_eq]
  generalize (lg_sl ([.ref h0, .int p0, .int p1]) ++ List.replicate (3 - (lg_sl ([.ref h0, .int p0, .int p1])).length) Slot.unset).toArray = ls at hl ⊢
  have hl : lv_has ls 3 [(0, .ref h0), (1, .int p0), (2, .int p1)] := hl
  refine lv_aload_n hx hb dX1_spoil_0 rfl (lv_at hl 0 rfl) ?_
  refine va_get (D := (dC, dI)) (ci := 1) (v := .int (nI n)) (C := RX1) (T := TX1) (N := 4) hx hb hts in_X1 hown hK hP 0 rfl rfl 2 (by decide) (hts _ q73) (fun _ h9 => h9) rfl dX1_spoil_1 ?_
  refine lv_if_le (tgt := 26) hx hb dX1_spoil_4 (by decide) (fun q => ?_) (fun q => ?_)
  · have q0 : ¬ 0 < n := fun z => nI_nle z (by omega) q
    have e0 : wl_spoil n b p0 p1 = b := if_neg q0
    exact W.vret hx hb hr (fun t ht hW => ⟨⟨(n, b, rd, w), rfl, by rw [e0], by rw [ht]; exact hP, hD⟩, hS.F ht⟩) hS.2.2 dX1_spoil_26
  · have q0 : 0 < n := Nat.pos_of_ne_zero (fun z => q (by rw [z]; decide))
    have e0 : wl_spoil n b p0 p1 = wl_up b (wl_m31 p0 % n) (wl_m8 p1) := if_pos q0
    have hlt : wl_m31 p0 % n < n := Nat.mod_lt _ q0
    refine lv_aload_n hx hb dX1_spoil_7 rfl (lv_at hl 0 rfl) ?_
    refine va_get (D := (dC, dI)) (ci := 1) (v := .ref h1) (C := RX1) (T := TX1) (N := 4) hx hb hts in_X1 hown hK hP 0 rfl rfl 0 (by decide) (hts _ q71) (fun _ h9 => h9) rfl dX1_spoil_8 ?_
    refine lv_iload_n hx hb dX1_spoil_11 rfl (lv_at hl 1 rfl) ?_
    refine lv_ldc hx hb hown (hts _ q99) dX1_spoil_12 ?_
    refine wl_e (y := nI 2147483647) (rfl) ?_
    refine lv_iand hx hb dX1_spoil_14 ?_
    refine wl_e (y := nI (wl_m31 p0)) (wl_and31 p0) ?_
    refine lv_aload_n hx hb dX1_spoil_15 rfl (lv_at hl 0 rfl) ?_
    refine va_get (D := (dC, dI)) (ci := 1) (v := .int (nI n)) (C := RX1) (T := TX1) (N := 4) hx hb hts in_X1 hown hK hP 0 rfl rfl 2 (by decide) (hts _ q73) (fun _ h9 => h9) rfl dX1_spoil_16 ?_
    refine lv_irem hx hb dX1_spoil_19 (nI_ne0 q0 (by omega)) ?_
    refine wl_e (y := nI (wl_m31 p0 % n)) (wl_rem p0 q0 (by omega)) ?_
    refine lv_iload_n hx hb dX1_spoil_20 rfl (lv_at hl 2 rfl) ?_
    refine lv_sipush (v := nI 255) hx hb dX1_spoil_21 (by decide) ?_
    refine lv_iand hx hb dX1_spoil_24 ?_
    refine wl_e (y := nI (wl_m8 p1)) (wl_and8 p1) ?_
    refine wl_iast (F := wl_ti (wl_up b (wl_m31 p0 % n) (wl_m8 p1))) hx hb hK hP hD hS 1 0 rfl rfl (vp_in_nI (by omega) (by decide)) dX1_spoil_25 (wl_upI (nI_clamp (by omega)) rfl) (fun H locs hP hD hS => ?_)
    have hP : va_P (dC, dI) vwCl [(h0, .inr (1, [.ref h1, .ref h2, .int (nI n), .int rd])), (h1, .inl (cB, 1024, .inl (wl_ti (wl_up b (wl_m31 p0 % n) (wl_m8 p1))))), (h2, .inl (cC, 1024, .inl (wl_ti w)))] H := hP
    have hD : va_D A [(h0, .inr (1, [.ref h1, .ref h2, .int (nI n), .int rd])), (h1, .inl (cB, 1024, .inl (wl_ti (wl_up b (wl_m31 p0 % n) (wl_m8 p1))))), (h2, .inl (cC, 1024, .inl (wl_ti w)))] := hD
    exact W.vret hx hb hr (fun t ht hW => ⟨⟨(n, wl_up b (wl_m31 p0 % n) (wl_m8 p1), rd, w), rfl, by rw [e0], by rw [ht]; exact hP, hD⟩, hS.F ht⟩) hS.2.2 dX1_spoil_26
abbrev wsX1_letter : List Cond := ws_ yX1_letter cX1_letter 2 (some .int)
set_option maxHeartbeats 4000000 in
set_option maxRecDepth 100000 in
/-- letter(i): a letter of the last read -/
theorem metX1_letter (l : Launch) (dC : Nat → ClassId) (dI : Nat → Nat → Nat) (h0 h1 h2 : Nat) (cB cC : ClassId) (sz : Nat) (n : Nat) (b : Nat → Nat) (rd : Int32) (w : Nat → Nat) (p0 : Int32) (hrd : wl_ok rd) : Met l yX1_letter wsX1_letter ({ frames := 0, cells := 0, slots := 0, locals := 0 }) (va_Pc [.ref h0, .int p0] (fun U => U.heap.size = sz ∧ va_P (dC, dI) vwCl (wX1 h0 h1 h2 cB cC n b rd w) U.heap ∧ va_K (dC, dI) vwCl [(cB, .int), (cC, .int)] U ∧ va_D (fun _ => True) (wX1 h0 h1 h2 cB cC n b rd w))) (va_Qi (fun (r : Int32) (u : wl_S) => r = wl_let rd w p0 ∧ u = (n, b, rd, w)) (BX1 dC dI (va_A (wX1 h0 h1 h2 cB cC n b rd w) sz) h0 h1 h2 cB cC) (va_A (wX1 h0 h1 h2 cB cC n b rd w) sz)) 0 0 (va_A (wX1 h0 h1 h2 cB cC n b rd w) sz) := by
  refine Met.ofW (cc := cX1_letter) (maxL := 2) (ret := (some .int)) (by decide) rfl ?_
  intro p e s m args below meth c s₁ B hml hv
  obtain ⟨rfl, hsz, hP, hK, hD0⟩ := hv
  have hx := B.exec
  have hb := B.bytes
  have hr := B.returns
  have hts := atoms_spec (ws := wsX1_letter) B.pre
  have hts : ∀ w ∈ lw_all, w.before _ s = true := fun w h => hts w (List.mem_cons_of_mem _ h)
  have hown : s.vm.findClass RX1 = some m.cls := findClass_of_methodNamed B.named
  have hlocks := B.notSynchronized
  subst hsz
  have hD := hD0.self (sz := s.heap.size)
  generalize hAe : va_A (wX1 h0 h1 h2 cB cC n b rd w) s.heap.size = A at hD ⊢
  have hA : ∀ q : Nat, s.heap.size ≤ q → A q := fun q h => by rw [← hAe]; exact Or.inr h
  have hS : va_S A s.heap s.heap [] := va_S.rf
  have hP : va_P (dC, dI) vwCl [(h0, .inr (1, [.ref h1, .ref h2, .int (nI n), .int rd])), (h1, .inl (cB, 1024, .inl (wl_ti b))), (h2, .inl (cC, 1024, .inl (wl_ti w)))] s.heap := hP
  have hD : va_D A [(h0, .inr (1, [.ref h1, .ref h2, .int (nI n), .int rd])), (h1, .inl (cB, 1024, .inl (wl_ti b))), (h2, .inl (cC, 1024, .inl (wl_ti w)))] := hD
  have hl := lv_entry ([.ref h0, .int p0]) (n := 2) (Nat.le_of_ble_eq_true rfl)
  rw [lg_entry_eq]
  generalize (lg_sl ([.ref h0, .int p0]) ++ List.replicate (2 - (lg_sl ([.ref h0, .int p0])).length) Slot.unset).toArray = ls at hl ⊢
  have hl : lv_has ls 2 [(0, .ref h0), (1, .int p0)] := hl
  refine lv_aload_n hx hb dX1_letter_0 rfl (lv_at hl 0 rfl) ?_
  refine va_get (D := (dC, dI)) (ci := 1) (v := .int rd) (C := RX1) (T := TX1) (N := 4) hx hb hts in_X1 hown hK hP 0 rfl rfl 3 (by decide) (hts _ q74) (fun _ h9 => h9) rfl dX1_letter_1 ?_
  refine lv_if_gt (tgt := 11) hx hb dX1_letter_4 (by decide) (fun q => ?_) (fun q => ?_)
  · obtain ⟨r, hr0, hr1, rfl⟩ := wl_ok_pos hrd q
    have hlt : wl_m31 p0 % r < r := Nat.mod_lt _ hr0
    refine lv_aload_n hx hb dX1_letter_11 rfl (lv_at hl 0 rfl) ?_
    refine va_get (D := (dC, dI)) (ci := 1) (v := .ref h2) (C := RX1) (T := TX1) (N := 4) hx hb hts in_X1 hown hK hP 0 rfl rfl 1 (by decide) (hts _ q72) (fun _ h9 => h9) rfl dX1_letter_12 ?_
    refine lv_iload_n hx hb dX1_letter_15 rfl (lv_at hl 1 rfl) ?_
    refine lv_ldc hx hb hown (hts _ q99) dX1_letter_16 ?_
    refine wl_e (y := nI 2147483647) (rfl) ?_
    refine lv_iand hx hb dX1_letter_18 ?_
    refine wl_e (y := nI (wl_m31 p0)) (wl_and31 p0) ?_
    refine lv_aload_n hx hb dX1_letter_19 rfl (lv_at hl 0 rfl) ?_
    refine va_get (D := (dC, dI)) (ci := 1) (v := .int (nI r)) (C := RX1) (T := TX1) (N := 4) hx hb hts in_X1 hown hK hP 0 rfl rfl 3 (by decide) (hts _ q74) (fun _ h9 => h9) rfl dX1_letter_20 ?_
    refine lv_irem hx hb dX1_letter_23 (nI_ne0 hr0 (by omega)) ?_
    refine wl_e (y := nI (wl_m31 p0 % r)) (wl_rem p0 hr0 (by omega)) ?_
    refine va_iald hx hb hK hP 2 1 rfl rfl (vp_in_nI (by omega) (by decide)) dX1_letter_24 ?_
    refine wl_e (y := nI (w (wl_m31 p0 % r))) (wl_tiA (by omega)) ?_
    exact W.iret (v := nI (w (wl_m31 p0 % r))) hx hb hr (fun t ht hW => ⟨⟨(nI (w (wl_m31 p0 % r))), (n, b, nI r, w), rfl, ⟨by rw [wl_let, if_pos q, nI_clamp (by omega)], rfl⟩, by rw [ht]; exact hP, hD⟩, hS.F ht⟩) hS.2.2 dX1_letter_25
  · refine lv_iconst (v := (-1)) hx hb dX1_letter_7 (by decide) ?_
    refine lv_goto (tgt := 25) hx hb dX1_letter_8 (by decide) ?_
    exact W.iret (v := -1) hx hb hr (fun t ht hW => ⟨⟨(-1), (n, b, rd, w), rfl, ⟨(if_neg q).symm, rfl⟩, by rw [ht]; exact hP, hD⟩, hS.F ht⟩) hS.2.2 dX1_letter_25
end
section
/-! UTF8.transcodeToUTF16 and WireLetters.read -/
set_option maxHeartbeats 4000000 in
set_option maxRecDepth 100000 in
/-- the inner loop: k bytes are left at i, the state is st -/
theorem u8_inner {p : Program} {l : Launch} {e : Env} {R : Room} {s : State} {m : MethodId} {args : Array Value} {below : List Frame} {meth : Method} {c : Code} {dC : Nat → ClassId} {dI : Nat → Nat → Nat} {A : Nat → Prop} {h1 h2 t1 t2 : Nat} {cB cC : ClassId} {b : Nat → Nat} {D : Int32 × (Nat → Nat)} {ee : Nat} (hx : p.tables.exec = Jvm.exec) (hb : c.code = cX2_transcodeToUTF16) (hr : meth.sig.returnType = some .int) (hlocks : meth.locks = false) (hown : s.vm.findClass RX2 = some m.cls) (hts : ∀ w ∈ lw_all, w.before args s = true) (hSt : wl_St t1 t2 A s s.heap) (hby : ∀ j, b j < 256) (he : ee ≤ 1024) (hK : va_K (dC, dI) vwCl [(cB, .byte), (cC, .char)] s) {w : Nat → Nat} {j : Nat} {H : Heap} {locs : List Loc} (hP : va_P (dC, dI) vwCl [(h1, .inl (cB, 1024, .inl (wl_tb b))), (h2, .inl (cC, 1024, .inl (wl_ti w)))] H) (hD : va_D A [(h1, .inl (cB, 1024, .inl (wl_tb b))), (h2, .inl (cC, 1024, .inl (wl_ti w)))]) (hS : va_S A s.heap H locs) :
    ∀ (k i cp st : Nat), i + k = ee → st < 9 → (wl_inn b k i cp st = none → D = (-1, w)) → (∀ (i2 cp2 st2 : Nat) (ls : Array Slot), st2 < 9 → wl_inn b k i cp st = some (i2, cp2, st2) → lv_has ls 11 [(0, .ref h1), (3, .ref h2), (4, .int (nI i2)), (5, .int (nI j)), (6, .int (nI ee)), (9, .int (nI cp2)), (10, .int (wl_sI st2))] → W p l e R s m args below meth c H locs 0 0 (MQ below (va_Qi (fun (r : Int32) (u : Nat → Nat) => (r, u) = D) (BX2 dC dI A h1 h2 cB cC b) A) args s 0 0 A) (F0 m 133 ls [])) → ∀ (ls : Array Slot), lv_has ls 11 [(0, .ref h1), (3, .ref h2), (4, .int (nI i)), (5, .int (nI j)), (6, .int (nI ee)), (9, .int (nI cp)), (10, .int (wl_sI st))] → W p l e R s m args below meth c H locs 0 0 (MQ below (va_Qi (fun (r : Int32) (u : Nat → Nat) => (r, u) = D) (BX2 dC dI A h1 h2 cB cC b) A) args s 0 0 A) (F0 m 77 ls []) := by
  intro k
  induction k with
  | zero =>
    intro i cp st hik hst hN hG ls hl
    refine lv_iload hx hb dX2_transcodeToUTF16_77 (lv_at hl 6 rfl) ?_
    refine lv_if_lt (tgt := 133) hx hb dX2_transcodeToUTF16_79 (by decide) (fun q => ?_) (fun q => ?_)
    · exact hG i cp st ls hst (wl_inn_end ((wl_sI_lt st hst).mp q)) hl
    · have h7 : st < 7 := Nat.not_le.mp (fun z => q ((wl_sI_lt st hst).mpr z))
      refine lv_iload hx hb dX2_transcodeToUTF16_82 (lv_at hl 2 rfl) ?_
      refine lv_iload hx hb dX2_transcodeToUTF16_84 (lv_at hl 4 rfl) ?_
      refine wl_jlt (u := i) (v := ee) (tgt := 91) hx hb dX2_transcodeToUTF16_86 (by decide) (by omega) (by omega) (fun z => absurd z (by omega)) (fun _ => ?_)
      refine lv_iconst (v := (-1)) hx hb dX2_transcodeToUTF16_89 (by decide) ?_
      exact W.iret (v := -1) hx hb hr (fun t ht hW => ⟨⟨(-1), w, rfl, (hN (wl_inn_0 h7)).symm, by rw [ht]; exact hP, hD⟩, hS.F ht⟩) hS.2.2 dX2_transcodeToUTF16_90
  | succ k ih =>
    intro i cp st hik hst hN hG ls hl
    refine lv_iload hx hb dX2_transcodeToUTF16_77 (lv_at hl 6 rfl) ?_
    refine lv_if_lt (tgt := 133) hx hb dX2_transcodeToUTF16_79 (by decide) (fun q => ?_) (fun q => ?_)
    · exact hG i cp st ls hst (wl_inn_end ((wl_sI_lt st hst).mp q)) hl
    · have h7 : st < 7 := Nat.not_le.mp (fun z => q ((wl_sI_lt st hst).mpr z))
      refine lv_iload hx hb dX2_transcodeToUTF16_82 (lv_at hl 2 rfl) ?_
      refine lv_iload hx hb dX2_transcodeToUTF16_84 (lv_at hl 4 rfl) ?_
      refine wl_jlt (u := i) (v := ee) (tgt := 91) hx hb dX2_transcodeToUTF16_86 (by decide) (by omega) (by omega) (fun _ => ?_) (fun z => absurd z (by omega))
      have hbi := hby i
      refine lv_aload_n hx hb dX2_transcodeToUTF16_91 rfl (lv_at hl 0 rfl) ?_
      refine lv_iload hx hb dX2_transcodeToUTF16_92 (lv_at hl 2 rfl) ?_
      refine lv_iinc (v := nI (i + 1)) (lv' := [(4, .int (nI (i + 1))), (0, .ref h1), (3, .ref h2), (5, .int (nI j)), (6, .int (nI ee)), (9, .int (nI cp)), (10, .int (wl_sI st))]) hx hb dX2_transcodeToUTF16_94 hl (k := 2) rfl (nI_1 i) (by decide) rfl (fun ls hl => ?_)
      refine va_bald hx hb hK hP 0 0 rfl rfl (vp_in_nI (by omega) (by decide)) dX2_transcodeToUTF16_97 ?_
      refine wl_e (y := wl_B (b i)) (wl_tbA (by omega)) ?_
      refine lv_istore (lv' := [(7, .int (wl_B (b i))), (4, .int (nI (i + 1))), (0, .ref h1), (3, .ref h2), (5, .int (nI j)), (6, .int (nI ee)), (9, .int (nI cp)), (10, .int (wl_sI st))]) hx hb dX2_transcodeToUTF16_98 hl (by decide) rfl (fun ls hl => ?_)
      refine lv_iload hx hb dX2_transcodeToUTF16_100 (lv_at hl 6 rfl) ?_
      refine lv_bipush (v := nI 6) hx hb dX2_transcodeToUTF16_102 (by decide) ?_
      refine lv_ishl hx hb dX2_transcodeToUTF16_104 ?_
      refine lv_iload hx hb dX2_transcodeToUTF16_105 (lv_at hl 0 rfl) ?_
      refine lv_bipush (v := nI 63) hx hb dX2_transcodeToUTF16_107 (by decide) ?_
      refine lv_iand hx hb dX2_transcodeToUTF16_109 ?_
      refine wl_e (y := nI (b i % 64)) (wl_B_63 _ hbi) ?_
      refine lv_ior hx hb dX2_transcodeToUTF16_110 ?_
      refine wl_e (y := nI (cp * 64 + b i % 64)) (wl_shlor _ _ (by omega)) ?_
      refine lv_istore (lv' := [(9, .int (nI (cp * 64 + b i % 64))), (7, .int (wl_B (b i))), (4, .int (nI (i + 1))), (0, .ref h1), (3, .ref h2), (5, .int (nI j)), (6, .int (nI ee)), (10, .int (wl_sI st))]) hx hb dX2_transcodeToUTF16_111 hl (by decide) rfl (fun ls hl => ?_)
      refine va_gets (C := "UTF8") (n := "transitionTable") (d := "[B") (own := RX2) (ref := "UTF8") hx hb hSt.2.2.1 hS hown (hts _ q56) (fun _ h9 => h9) dX2_transcodeToUTF16_113 ?_
      refine lv_iload hx hb dX2_transcodeToUTF16_116 (lv_at hl 7 rfl) ?_
      refine wl_e (y := nI (16 * st)) (wl_sI_lo h7) ?_
      refine lv_iload hx hb dX2_transcodeToUTF16_118 (lv_at hl 1 rfl) ?_
      refine lv_sipush (v := nI 255) hx hb dX2_transcodeToUTF16_120 (by decide) ?_
      refine lv_iand hx hb dX2_transcodeToUTF16_123 ?_
      refine wl_e (y := nI (b i)) (wl_B_255 _ hbi) ?_
      refine lv_iconst (v := nI 4) hx hb dX2_transcodeToUTF16_124 (by decide) ?_
      refine lv_iushr (v := nI (b i / 16)) hx hb dX2_transcodeToUTF16_125 (wl_ushr (k := 4) (by omega) (by decide)) ?_
      refine lv_iadd hx hb dX2_transcodeToUTF16_126 ?_
      refine wl_e (y := nI (16 * st + b i / 16)) (nI_add _ _) ?_
      refine va_tb (v := .int (wl_sI (wl_trans st (b i / 16)))) hx hb hSt.2.2.2 hS (vp_in_nI (by omega) (by decide)) (by rw [nI_clamp (by omega), wl_tT_at _ _ (by omega)]) dX2_transcodeToUTF16_127 ?_
      refine lv_istore (lv' := [(10, .int (wl_sI (wl_trans st (b i / 16)))), (9, .int (nI (cp * 64 + b i % 64))), (7, .int (wl_B (b i))), (4, .int (nI (i + 1))), (0, .ref h1), (3, .ref h2), (5, .int (nI j)), (6, .int (nI ee))]) hx hb dX2_transcodeToUTF16_128 hl (by decide) rfl (fun ls hl => ?_)
      refine lv_goto (tgt := 77) hx hb dX2_transcodeToUTF16_130 (by decide) ?_
      exact ih (i + 1) (cp * 64 + b i % 64) (wl_trans st (b i / 16)) (by omega) (wl_trans_le _ _) (fun z => hN (by rw [wl_inn_s h7]; exact z)) (fun i2 cp2 st2 ls z1 z2 hl => hG i2 cp2 st2 ls z1 (by rw [wl_inn_s h7]; exact z2) hl) ls (lv_sub hl [4, 5, 3, 6, 7, 1, 0] rfl)
theorem wl_step_ascii {b : Nat → Nat} {f e : Nat} (h : b f < 128) (he : f < e) : wl_step b f e = some (0, b f) := by
  have h0 : wl_more (b f) = 0 := if_pos h
  have hs := wl_step_ok (b := b) (f := f) (e := e) (v := b f) (by rw [h0]; decide) (by rw [h0]; exact he) (by rw [h0]; rfl) (by rw [h0]; omega)
  rw [h0] at hs
  exact hs
set_option maxHeartbeats 4000000 in
set_option maxRecDepth 100000 in
/-- the outer loop: j letters are written, the next byte is f -/
theorem u8_outer {p : Program} {l : Launch} {e : Env} {R : Room} {s : State} {m : MethodId} {args : Array Value} {below : List Frame} {meth : Method} {c : Code} {dC : Nat → ClassId} {dI : Nat → Nat → Nat} {A : Nat → Prop} {h1 h2 t1 t2 : Nat} {cB cC : ClassId} {b : Nat → Nat} {D : Int32 × (Nat → Nat)} {ee : Nat} (hx : p.tables.exec = Jvm.exec) (hb : c.code = cX2_transcodeToUTF16) (hr : meth.sig.returnType = some .int) (hlocks : meth.locks = false) (hown : s.vm.findClass RX2 = some m.cls) (hts : ∀ w ∈ lw_all, w.before args s = true) (hSt : wl_St t1 t2 A s s.heap) (hby : ∀ j, b j < 256) (he : ee ≤ 1024) (hK : va_K (dC, dI) vwCl [(cB, .byte), (cC, .char)] s) :
    ∀ (k f j : Nat) (w : Nat → Nat) (H : Heap) (locs : List Loc), ee < f + k → j ≤ f → f ≤ ee → D = wl_dec b ee k f j w → va_P (dC, dI) vwCl [(h1, .inl (cB, 1024, .inl (wl_tb b))), (h2, .inl (cC, 1024, .inl (wl_ti w)))] H → va_D A [(h1, .inl (cB, 1024, .inl (wl_tb b))), (h2, .inl (cC, 1024, .inl (wl_ti w)))] → va_S A s.heap H locs → ∀ (ls : Array Slot), lv_has ls 11 [(0, .ref h1), (3, .ref h2), (4, .int (nI f)), (5, .int (nI j)), (6, .int (nI ee))] → W p l e R s m args below meth c H locs 0 0 (MQ below (va_Qi (fun (r : Int32) (u : Nat → Nat) => (r, u) = D) (BX2 dC dI A h1 h2 cB cC b) A) args s 0 0 A) (F0 m 11 ls []) := by
  intro k
  induction k with
  | zero =>
    intro f j w H locs h1 h2 h3
    exact absurd h1 (by omega)
  | succ k ih =>
    intro f j w H locs hfk hjf hfe hDd hP hD hS ls hl
    refine lv_iload hx hb dX2_transcodeToUTF16_11 (lv_at hl 2 rfl) ?_
    refine lv_iload hx hb dX2_transcodeToUTF16_13 (lv_at hl 4 rfl) ?_
    refine wl_jge (u := f) (v := ee) (tgt := 218) hx hb dX2_transcodeToUTF16_15 (by decide) (by omega) (by omega) (fun q => ?_) (fun q => ?_)
    · refine lv_iload hx hb dX2_transcodeToUTF16_218 (lv_at hl 3 rfl) ?_
      exact W.iret (v := nI j) hx hb hr (fun t ht hW => ⟨⟨(nI j), w, rfl, (hDd.trans (wl_dec_done q)).symm, by rw [ht]; exact hP, hD⟩, hS.F ht⟩) hS.2.2 dX2_transcodeToUTF16_220
    · have hbf := hby f
      refine lv_aload_n hx hb dX2_transcodeToUTF16_18 rfl (lv_at hl 0 rfl) ?_
      refine lv_iload hx hb dX2_transcodeToUTF16_19 (lv_at hl 2 rfl) ?_
      refine lv_iinc (v := nI (f + 1)) (lv' := [(4, .int (nI (f + 1))), (0, .ref h1), (3, .ref h2), (5, .int (nI j)), (6, .int (nI ee))]) hx hb dX2_transcodeToUTF16_21 hl (k := 2) rfl (nI_1 f) (by decide) rfl (fun ls hl => ?_)
      refine va_bald hx hb hK hP 0 0 rfl rfl (vp_in_nI (by omega) (by decide)) dX2_transcodeToUTF16_24 ?_
      refine wl_e (y := wl_B (b f)) (wl_tbA (by omega)) ?_
      refine lv_istore (lv' := [(7, .int (wl_B (b f))), (4, .int (nI (f + 1))), (0, .ref h1), (3, .ref h2), (5, .int (nI j)), (6, .int (nI ee))]) hx hb dX2_transcodeToUTF16_25 hl (by decide) rfl (fun ls hl => ?_)
      refine lv_iload hx hb dX2_transcodeToUTF16_27 (lv_at hl 0 rfl) ?_
      refine lv_if_lt (tgt := 54) hx hb dX2_transcodeToUTF16_29 (by decide) (fun c0 => ?_) (fun c0 => ?_)
      · have h128 : 128 ≤ b f := (wl_B_lt0 _ hbf).mp c0
        obtain ⟨j0, ej0, hj0⟩ : ∃ j0, b f % 128 = j0 ∧ j0 < 128 := ⟨_, rfl, Nat.mod_lt _ (by decide)⟩
        refine va_gets (C := "UTF8") (n := "firstUnitTable") (d := "[S") (own := RX2) (ref := "UTF8") hx hb hSt.1 hS hown (hts _ q54) (fun _ h9 => h9) dX2_transcodeToUTF16_54 ?_
        refine lv_iload hx hb dX2_transcodeToUTF16_57 (lv_at hl 0 rfl) ?_
        refine lv_bipush (v := nI 127) hx hb dX2_transcodeToUTF16_59 (by decide) ?_
        refine lv_iand hx hb dX2_transcodeToUTF16_61 ?_
        refine wl_e (y := nI j0) (by rw [wl_B_127 _ hbf, ej0]) ?_
        refine va_ts (v := .int (wl_fT j0)) hx hb hSt.2.1 hS (vp_in_nI hj0 (by decide)) (by rw [nI_clamp (by omega)]) dX2_transcodeToUTF16_62 ?_
        refine lv_istore (lv' := [(8, .int (wl_fT j0)), (7, .int (wl_B (b f))), (4, .int (nI (f + 1))), (0, .ref h1), (3, .ref h2), (5, .int (nI j)), (6, .int (nI ee))]) hx hb dX2_transcodeToUTF16_63 hl (by decide) rfl (fun ls hl => ?_)
        refine lv_iload hx hb dX2_transcodeToUTF16_65 (lv_at hl 0 rfl) ?_
        refine lv_bipush (v := nI 8) hx hb dX2_transcodeToUTF16_67 (by decide) ?_
        refine lv_iushr (v := nI (wl_fc j0)) hx hb dX2_transcodeToUTF16_69 (wl_fT_c j0 hj0) ?_
        refine lv_istore (lv' := [(9, .int (nI (wl_fc j0))), (8, .int (wl_fT j0)), (7, .int (wl_B (b f))), (4, .int (nI (f + 1))), (0, .ref h1), (3, .ref h2), (5, .int (nI j)), (6, .int (nI ee))]) hx hb dX2_transcodeToUTF16_70 hl (by decide) rfl (fun ls hl => ?_)
        refine lv_iload hx hb dX2_transcodeToUTF16_72 (lv_at hl 1 rfl) ?_
        refine lv_i2b (v := wl_sI (wl_fs j0)) hx hb dX2_transcodeToUTF16_74 (wl_fT_s j0 hj0) ?_
        refine lv_istore (lv' := [(10, .int (wl_sI (wl_fs j0))), (9, .int (nI (wl_fc j0))), (8, .int (wl_fT j0)), (7, .int (wl_B (b f))), (4, .int (nI (f + 1))), (0, .ref h1), (3, .ref h2), (5, .int (nI j)), (6, .int (nI ee))]) hx hb dX2_transcodeToUTF16_75 hl (by decide) rfl (fun ls hl => ?_)
        have hlaw := wl_law hby (f := f) (e := ee) (k := ee - (f + 1)) (by omega) h128
        rw [ej0] at hlaw
        refine u8_inner hx hb hr hlocks hown hts hSt hby he hK hP hD hS (ee - (f + 1)) (f + 1) (wl_fc j0) (wl_fs j0) (by omega) (wl_fs_le _) (fun z => by rw [z] at hlaw; exact hDd.trans (wl_dec_none q hlaw)) (fun i2 cp2 st2 ls z1 z2 hl => ?_) ls (lv_sub hl [5, 6, 4, 7, 8, 1, 0] rfl)
        rw [z2] at hlaw
        refine lv_iload hx hb dX2_transcodeToUTF16_133 (lv_at hl 6 rfl) ?_
        refine lv_bipush (v := (-2)) hx hb dX2_transcodeToUTF16_135 (by decide) ?_
        refine lv_icmp_ne (tgt := 142) hx hb dX2_transcodeToUTF16_137 (by decide) (fun c1 => ?_) (fun c1 => ?_)
        · rcases hlaw with ⟨h8, -⟩ | ⟨h7, mm, hm1, hm3, hstep, hi2, h3, hcp⟩
          · exact absurd ((wl_sI_m2 st2 z1).mpr h8) c1
          · have hsm := wl_step_some hstep
            refine lv_iload hx hb dX2_transcodeToUTF16_142 (lv_at hl 5 rfl) ?_
            refine lv_ldc hx hb hown (hts _ q58) dX2_transcodeToUTF16_144 ?_
            refine wl_e (y := nI 65535) (rfl) ?_
            refine wl_jgt (u := cp2) (v := 65535) (tgt := 171) hx hb dX2_transcodeToUTF16_146 (by decide) (by omega) (by omega) (fun c2 => ?_) (fun c2 => ?_)
            · have hm : mm = 3 := h3.mpr (by omega)
              subst hm
              refine lv_iload hx hb dX2_transcodeToUTF16_171 (lv_at hl 3 rfl) ?_
              refine lv_aload_n hx hb dX2_transcodeToUTF16_173 rfl (lv_at hl 1 rfl) ?_
              refine va_alen (v := nI 1024) hx hb hK hP 1 1 rfl rfl rfl dX2_transcodeToUTF16_174 ?_
              refine lv_iconst (v := nI 1) hx hb dX2_transcodeToUTF16_175 (by decide) ?_
              refine lv_isub hx hb dX2_transcodeToUTF16_176 ?_
              refine wl_e (y := nI 1023) (by decide) ?_
              refine wl_jlt (u := j) (v := 1023) (tgt := 182) hx hb dX2_transcodeToUTF16_177 (by decide) (by omega) (by omega) (fun _ => ?_) (fun z => absurd z (by omega))
              refine lv_aload_n hx hb dX2_transcodeToUTF16_182 rfl (lv_at hl 1 rfl) ?_
              refine lv_iload hx hb dX2_transcodeToUTF16_183 (lv_at hl 3 rfl) ?_
              refine lv_iinc (v := nI (j + 1)) (lv' := [(5, .int (nI (j + 1))), (0, .ref h1), (3, .ref h2), (4, .int (nI i2)), (6, .int (nI ee)), (9, .int (nI cp2)), (10, .int (wl_sI st2))]) hx hb dX2_transcodeToUTF16_185 hl (k := 3) rfl (nI_1 j) (by decide) rfl (fun ls hl => ?_)
              refine lv_ldc hx hb hown (hts _ q59) dX2_transcodeToUTF16_188 ?_
              refine wl_e (y := nI 55232) (rfl) ?_
              refine lv_iload hx hb dX2_transcodeToUTF16_190 (lv_at hl 5 rfl) ?_
              refine lv_bipush (v := nI 10) hx hb dX2_transcodeToUTF16_192 (by decide) ?_
              refine lv_iushr (v := nI (cp2 / 1024)) hx hb dX2_transcodeToUTF16_194 (wl_ushr (k := 10) (by omega) (by decide)) ?_
              refine lv_iadd hx hb dX2_transcodeToUTF16_195 ?_
              refine wl_e (y := nI (55296 + (cp2 - 65536) / 1024)) (by rw [nI_add]; exact congrArg nI (by omega)) ?_
              refine lv_i2c (v := nI (55296 + (cp2 - 65536) / 1024)) hx hb dX2_transcodeToUTF16_196 (wl_i2c (by omega)) ?_
              refine wl_cast (F := wl_ti (wl_up w j (55296 + (cp2 - 65536) / 1024))) hx hb hK hP hD hS 1 1 rfl rfl (vp_in_nI (by omega) (by decide)) dX2_transcodeToUTF16_197 (wl_upC (nI_clamp (by omega)) (wl_narC (by omega))) (fun H locs hP hD hS => ?_)
              have hP : va_P (dC, dI) vwCl [(h1, .inl (cB, 1024, .inl (wl_tb b))), (h2, .inl (cC, 1024, .inl (wl_ti (wl_up w j (55296 + (cp2 - 65536) / 1024)))))] H := hP
              have hD : va_D A [(h1, .inl (cB, 1024, .inl (wl_tb b))), (h2, .inl (cC, 1024, .inl (wl_ti (wl_up w j (55296 + (cp2 - 65536) / 1024)))))] := hD
              refine lv_aload_n hx hb dX2_transcodeToUTF16_198 rfl (lv_at hl 2 rfl) ?_
              refine lv_iload hx hb dX2_transcodeToUTF16_199 (lv_at hl 0 rfl) ?_
              refine lv_iinc (v := nI (j + 2)) (lv' := [(5, .int (nI (j + 2))), (0, .ref h1), (3, .ref h2), (4, .int (nI i2)), (6, .int (nI ee)), (9, .int (nI cp2)), (10, .int (wl_sI st2))]) hx hb dX2_transcodeToUTF16_201 hl (k := 0) rfl (nI_1 (j + 1)) (by decide) rfl (fun ls hl => ?_)
              refine lv_ldc hx hb hown (hts _ q60) dX2_transcodeToUTF16_204 ?_
              refine wl_e (y := nI 56320) (rfl) ?_
              refine lv_iload hx hb dX2_transcodeToUTF16_206 (lv_at hl 5 rfl) ?_
              refine lv_sipush (v := nI 1023) hx hb dX2_transcodeToUTF16_208 (by decide) ?_
              refine lv_iand hx hb dX2_transcodeToUTF16_211 ?_
              refine wl_e (y := nI (cp2 % 1024)) (pk_andN (by omega) 10 (by decide)) ?_
              refine lv_ior hx hb dX2_transcodeToUTF16_212 ?_
              refine wl_e (y := nI (56320 + cp2 % 1024)) (wl_orA (i := 10) (c := 55) (by omega) (by decide)) ?_
              refine lv_i2c (v := nI (56320 + cp2 % 1024)) hx hb dX2_transcodeToUTF16_213 (wl_i2c (by omega)) ?_
              refine wl_cast (F := wl_ti (wl_up (wl_up w j (55296 + (cp2 - 65536) / 1024)) (j + 1) (56320 + cp2 % 1024))) hx hb hK hP hD hS 1 1 rfl rfl (vp_in_nI (by omega) (by decide)) dX2_transcodeToUTF16_214 (wl_upC (nI_clamp (by omega)) (wl_narC (by omega))) (fun H locs hP hD hS => ?_)
              have hP : va_P (dC, dI) vwCl [(h1, .inl (cB, 1024, .inl (wl_tb b))), (h2, .inl (cC, 1024, .inl (wl_ti (wl_up (wl_up w j (55296 + (cp2 - 65536) / 1024)) (j + 1) (56320 + cp2 % 1024)))))] H := hP
              have hD : va_D A [(h1, .inl (cB, 1024, .inl (wl_tb b))), (h2, .inl (cC, 1024, .inl (wl_ti (wl_up (wl_up w j (55296 + (cp2 - 65536) / 1024)) (j + 1) (56320 + cp2 % 1024)))))] := hD
              refine lv_goto (tgt := 11) hx hb dX2_transcodeToUTF16_215 (by decide) ?_
              subst hi2
              exact ih (f + 4) (j + 2) _ H locs (by omega) (by omega) (by omega) (hDd.trans (wl_dec_3 q hstep)) hP hD hS ls (lv_sub hl [1, 2, 3, 0, 4] rfl)
            · have hm : mm ≠ 3 := fun z => absurd (h3.mp z) (by omega)
              refine lv_iload hx hb dX2_transcodeToUTF16_149 (lv_at hl 3 rfl) ?_
              refine lv_aload_n hx hb dX2_transcodeToUTF16_151 rfl (lv_at hl 1 rfl) ?_
              refine va_alen (v := nI 1024) hx hb hK hP 1 1 rfl rfl rfl dX2_transcodeToUTF16_152 ?_
              refine wl_jlt (u := j) (v := 1024) (tgt := 158) hx hb dX2_transcodeToUTF16_153 (by decide) (by omega) (by omega) (fun _ => ?_) (fun z => absurd z (by omega))
              refine lv_aload_n hx hb dX2_transcodeToUTF16_158 rfl (lv_at hl 1 rfl) ?_
              refine lv_iload hx hb dX2_transcodeToUTF16_159 (lv_at hl 3 rfl) ?_
              refine lv_iinc (v := nI (j + 1)) (lv' := [(5, .int (nI (j + 1))), (0, .ref h1), (3, .ref h2), (4, .int (nI i2)), (6, .int (nI ee)), (9, .int (nI cp2)), (10, .int (wl_sI st2))]) hx hb dX2_transcodeToUTF16_161 hl (k := 3) rfl (nI_1 j) (by decide) rfl (fun ls hl => ?_)
              refine lv_iload hx hb dX2_transcodeToUTF16_164 (lv_at hl 5 rfl) ?_
              refine lv_i2c (v := nI cp2) hx hb dX2_transcodeToUTF16_166 (wl_i2c (by omega)) ?_
              refine wl_cast (F := wl_ti (wl_up w j cp2)) hx hb hK hP hD hS 1 1 rfl rfl (vp_in_nI (by omega) (by decide)) dX2_transcodeToUTF16_167 (wl_upC (nI_clamp (by omega)) (wl_narC (by omega))) (fun H locs hP hD hS => ?_)
              have hP : va_P (dC, dI) vwCl [(h1, .inl (cB, 1024, .inl (wl_tb b))), (h2, .inl (cC, 1024, .inl (wl_ti (wl_up w j cp2))))] H := hP
              have hD : va_D A [(h1, .inl (cB, 1024, .inl (wl_tb b))), (h2, .inl (cC, 1024, .inl (wl_ti (wl_up w j cp2))))] := hD
              refine lv_goto (tgt := 215) hx hb dX2_transcodeToUTF16_168 (by decide) ?_
              refine lv_goto (tgt := 11) hx hb dX2_transcodeToUTF16_215 (by decide) ?_
              subst hi2
              exact ih (f + mm + 1) (j + 1) _ H locs (by omega) (by omega) (by omega) (hDd.trans (wl_dec_n q hstep hm)) hP hD hS ls (lv_sub hl [1, 2, 3, 0, 4] rfl)
        · have hnone : wl_step b f ee = none := by
            rcases hlaw with ⟨-, h⟩ | ⟨h7, -⟩
            · exact h
            · exact absurd ((wl_sI_m2 st2 z1).mp c1) (by omega)
          refine lv_iconst (v := (-1)) hx hb dX2_transcodeToUTF16_140 (by decide) ?_
          exact W.iret (v := -1) hx hb hr (fun t ht hW => ⟨⟨(-1), w, rfl, (hDd.trans (wl_dec_none q hnone)).symm, by rw [ht]; exact hP, hD⟩, hS.F ht⟩) hS.2.2 dX2_transcodeToUTF16_141
      · have h128 : b f < 128 := Nat.not_le.mp (fun z => c0 ((wl_B_lt0 _ hbf).mpr z))
        refine lv_iload hx hb dX2_transcodeToUTF16_32 (lv_at hl 4 rfl) ?_
        refine lv_aload_n hx hb dX2_transcodeToUTF16_34 rfl (lv_at hl 3 rfl) ?_
        refine va_alen (v := nI 1024) hx hb hK hP 1 1 rfl rfl rfl dX2_transcodeToUTF16_35 ?_
        refine wl_jlt (u := j) (v := 1024) (tgt := 41) hx hb dX2_transcodeToUTF16_36 (by decide) (by omega) (by omega) (fun _ => ?_) (fun z => absurd z (by omega))
        refine lv_aload_n hx hb dX2_transcodeToUTF16_41 rfl (lv_at hl 3 rfl) ?_
        refine lv_iload hx hb dX2_transcodeToUTF16_42 (lv_at hl 4 rfl) ?_
        refine lv_iinc (v := nI (j + 1)) (lv' := [(5, .int (nI (j + 1))), (7, .int (wl_B (b f))), (4, .int (nI (f + 1))), (0, .ref h1), (3, .ref h2), (6, .int (nI ee))]) hx hb dX2_transcodeToUTF16_44 hl (k := 4) rfl (nI_1 j) (by decide) rfl (fun ls hl => ?_)
        refine lv_iload hx hb dX2_transcodeToUTF16_47 (lv_at hl 1 rfl) ?_
        refine lv_i2c (v := nI (b f)) hx hb dX2_transcodeToUTF16_49 (wl_B_c _ h128) ?_
        refine wl_cast (F := wl_ti (wl_up w j (b f))) hx hb hK hP hD hS 1 1 rfl rfl (vp_in_nI (by omega) (by decide)) dX2_transcodeToUTF16_50 (wl_upC (nI_clamp (by omega)) (wl_narC (by omega))) (fun H locs hP hD hS => ?_)
        have hP : va_P (dC, dI) vwCl [(h1, .inl (cB, 1024, .inl (wl_tb b))), (h2, .inl (cC, 1024, .inl (wl_ti (wl_up w j (b f)))))] H := hP
        have hD : va_D A [(h1, .inl (cB, 1024, .inl (wl_tb b))), (h2, .inl (cC, 1024, .inl (wl_ti (wl_up w j (b f)))))] := hD
        refine lv_goto (tgt := 11) hx hb dX2_transcodeToUTF16_51 (by decide) ?_
        exact ih (f + 1) (j + 1) _ H locs (by omega) (by omega) (by omega) (hDd.trans (wl_dec_n q (wl_step_ascii h128 q) (by decide))) hP hD hS ls (lv_sub hl [3, 4, 2, 0, 5] rfl)
abbrev wsX2_transcodeToUTF16 : List Cond := ws_ yX2_transcodeToUTF16 cX2_transcodeToUTF16 11 (some .int)
set_option maxHeartbeats 4000000 in
set_option maxRecDepth 100000 in
/-- transcodeToUTF16(utf8, f, g, utf16): the decoder from f to f + g -/
theorem metX2_transcodeToUTF16 (l : Launch) (dC : Nat → ClassId) (dI : Nat → Nat → Nat) (h1 h2 : Nat) (cB cC : ClassId) (sz : Nat) (b w : Nat → Nat) (t1 t2 : Nat) (f g : Nat) (hfg : f + g ≤ 1024) (hby : ∀ j, b j < 256) : Met l yX2_transcodeToUTF16 wsX2_transcodeToUTF16 ({ frames := 0, cells := 0, slots := 0, locals := 0 }) (va_Pc [.ref h1, .int (nI f), .int (nI g), .ref h2] (fun U => U.heap.size = sz ∧ va_P (dC, dI) vwCl (wX2 h1 h2 cB cC b w) U.heap ∧ va_K (dC, dI) vwCl [(cB, .byte), (cC, .char)] U ∧ va_D (fun _ => True) (wX2 h1 h2 cB cC b w) ∧ wl_St t1 t2 (va_A (wX2 h1 h2 cB cC b w) sz) U U.heap)) (va_Qi (fun (r : Int32) (u : Nat → Nat) => (r, u) = wl_dec b (f + g) 1025 f 0 w) (BX2 dC dI (va_A (wX2 h1 h2 cB cC b w) sz) h1 h2 cB cC b) (va_A (wX2 h1 h2 cB cC b w) sz)) 0 0 (va_A (wX2 h1 h2 cB cC b w) sz) := by
  refine Met.ofW (cc := cX2_transcodeToUTF16) (maxL := 11) (ret := (some .int)) (by decide) rfl ?_
  intro p e s m args below meth c s₁ B hml hv
  obtain ⟨rfl, hsz, hP, hK, hD0, hSt⟩ := hv
  have hx := B.exec
  have hb := B.bytes
  have hr := B.returns
  have hts := atoms_spec (ws := wsX2_transcodeToUTF16) B.pre
  have hts : ∀ w ∈ lw_all, w.before _ s = true := fun w h => hts w (List.mem_cons_of_mem _ h)
  have hown : s.vm.findClass RX2 = some m.cls := findClass_of_methodNamed B.named
  have hlocks := B.notSynchronized
  subst hsz
  have hD := hD0.self (sz := s.heap.size)
  generalize hAe : va_A (wX2 h1 h2 cB cC b w) s.heap.size = A at hD hSt ⊢
  have hA : ∀ q : Nat, s.heap.size ≤ q → A q := fun q h => by rw [← hAe]; exact Or.inr h
  have hS : va_S A s.heap s.heap [] := va_S.rf
  have hP : va_P (dC, dI) vwCl [(h1, .inl (cB, 1024, .inl (wl_tb b))), (h2, .inl (cC, 1024, .inl (wl_ti w)))] s.heap := hP
  have hD : va_D A [(h1, .inl (cB, 1024, .inl (wl_tb b))), (h2, .inl (cC, 1024, .inl (wl_ti w)))] := hD
  have hl := lv_entry ([.ref h1, .int (nI f), .int (nI g), .ref h2]) (n := 11) (Nat.le_of_ble_eq_true rfl)
  rw [lg_entry_eq]
  generalize (lg_sl ([.ref h1, .int (nI f), .int (nI g), .ref h2]) ++ List.replicate (11 - (lg_sl ([.ref h1, .int (nI f), .int (nI g), .ref h2])).length) Slot.unset).toArray = ls at hl ⊢
  have hl : lv_has ls 11 [(0, .ref h1), (1, .int (nI f)), (2, .int (nI g)), (3, .ref h2)] := hl
  refine lv_iload_n hx hb dX2_transcodeToUTF16_0 rfl (lv_at hl 1 rfl) ?_
  refine lv_istore (lv' := [(4, .int (nI f)), (0, .ref h1), (1, .int (nI f)), (2, .int (nI g)), (3, .ref h2)]) hx hb dX2_transcodeToUTF16_1 hl (by decide) rfl (fun ls hl => ?_)
  refine lv_iconst (v := nI 0) hx hb dX2_transcodeToUTF16_3 (by decide) ?_
  refine lv_istore (lv' := [(5, .int (nI 0)), (4, .int (nI f)), (0, .ref h1), (1, .int (nI f)), (2, .int (nI g)), (3, .ref h2)]) hx hb dX2_transcodeToUTF16_4 hl (by decide) rfl (fun ls hl => ?_)
  refine lv_iload_n hx hb dX2_transcodeToUTF16_6 rfl (lv_at hl 3 rfl) ?_
  refine lv_iload_n hx hb dX2_transcodeToUTF16_7 rfl (lv_at hl 4 rfl) ?_
  refine lv_iadd hx hb dX2_transcodeToUTF16_8 ?_
  refine wl_e (y := nI (f + g)) (nI_add f g) ?_
  refine lv_istore (lv' := [(6, .int (nI (f + g))), (5, .int (nI 0)), (4, .int (nI f)), (0, .ref h1), (1, .int (nI f)), (2, .int (nI g)), (3, .ref h2)]) hx hb dX2_transcodeToUTF16_9 hl (by decide) rfl (fun ls hl => ?_)
  exact u8_outer hx hb hr hlocks hown hts hSt hby hfg hK 1025 f 0 w _ _ (by omega) (Nat.zero_le _) (by omega) rfl hP hD hS ls (lv_sub hl [3, 6, 2, 1, 0] rfl)
abbrev wsX0_read : List Cond := ws_ yX0_read cX0_read 4 (some .int)
set_option maxHeartbeats 4000000 in
set_option maxRecDepth 100000 in
/-- read(at, n): the decoder over the bytes -/
theorem metX0_read (l : Launch) (dC : Nat → ClassId) (dI : Nat → Nat → Nat) (h0 h1 h2 : Nat) (cB cC : ClassId) (sz : Nat) (n : Nat) (b : Nat → Nat) (rd : Int32) (w : Nat → Nat) (t1 t2 : Nat) (p0 : Int32) (p1 : Int32) (hn : n ≤ 1024) (hby : ∀ j, b j < 256) : Met l yX0_read wsX0_read ({ frames := 1, cells := 0, slots := 0, locals := 30 }) (va_Pc [.ref h0, .int p0, .int p1] (fun U => U.heap.size = sz ∧ va_P (dC, dI) vwCl (wX0 h0 h1 h2 cB cC n b rd w) U.heap ∧ va_K (dC, dI) vwCl [(cB, .byte), (cC, .char)] U ∧ va_D (fun _ => True) (wX0 h0 h1 h2 cB cC n b rd w) ∧ wl_St t1 t2 (va_A (wX0 h0 h1 h2 cB cC n b rd w) sz) U U.heap)) (va_Qi (fun (r : Int32) (u : wl_S) => r = (wl_read n b w p0 p1).1 ∧ u = (n, b, (wl_read n b w p0 p1).1, (wl_read n b w p0 p1).2)) (BX0 dC dI (va_A (wX0 h0 h1 h2 cB cC n b rd w) sz) h0 h1 h2 cB cC) (va_A (wX0 h0 h1 h2 cB cC n b rd w) sz)) 0 0 (va_A (wX0 h0 h1 h2 cB cC n b rd w) sz) := by
  refine Met.ofW (cc := cX0_read) (maxL := 4) (ret := (some .int)) (by decide) rfl ?_
  intro p e s m args below meth c s₁ B hml hv
  obtain ⟨rfl, hsz, hP, hK, hD0, hSt⟩ := hv
  have hx := B.exec
  have hb := B.bytes
  have hr := B.returns
  have hts := atoms_spec (ws := wsX0_read) B.pre
  have hts : ∀ w ∈ lw_all, w.before _ s = true := fun w h => hts w (List.mem_cons_of_mem _ h)
  have hown : s.vm.findClass RX0 = some m.cls := findClass_of_methodNamed B.named
  have hlocks := B.notSynchronized
  subst hsz
  have hD := hD0.self (sz := s.heap.size)
  generalize hAe : va_A (wX0 h0 h1 h2 cB cC n b rd w) s.heap.size = A at hD hSt ⊢
  have hA : ∀ q : Nat, s.heap.size ≤ q → A q := fun q h => by rw [← hAe]; exact Or.inr h
  have hS : va_S A s.heap s.heap [] := va_S.rf
  have hP : va_P (dC, dI) vwCl [(h0, .inr (0, [.ref h1, .ref h2, .int (nI n), .int rd])), (h1, .inl (cB, 1024, .inl (wl_tb b))), (h2, .inl (cC, 1024, .inl (wl_ti w)))] s.heap := hP
  have hD : va_D A [(h0, .inr (0, [.ref h1, .ref h2, .int (nI n), .int rd])), (h1, .inl (cB, 1024, .inl (wl_tb b))), (h2, .inl (cC, 1024, .inl (wl_ti w)))] := hD
  have hl := lv_entry ([.ref h0, .int p0, .int p1]) (n := 4) (Nat.le_of_ble_eq_true rfl)
  rw [lg_entry_eq]
  generalize (lg_sl ([.ref h0, .int p0, .int p1]) ++ List.replicate (4 - (lg_sl ([.ref h0, .int p0, .int p1])).length) Slot.unset).toArray = ls at hl ⊢
  have hl : lv_has ls 4 [(0, .ref h0), (1, .int p0), (2, .int p1)] := hl
  obtain ⟨f, ef, hf⟩ : ∃ f, wl_rdF n p0 = f ∧ f ≤ n := ⟨_, rfl, wl_rdF_le n p0⟩
  have ef2 : wl_m31 p0 % (n + 1) = f := ef
  obtain ⟨g, eg, hg⟩ : ∃ g, wl_m31 p1 % (n - f + 1) = g ∧ g < n - f + 1 := ⟨_, rfl, Nat.mod_lt _ (Nat.succ_pos _)⟩
  have er : wl_read n b w p0 p1 = wl_dec b (f + g) 1025 f 0 w := by rw [wl_read, wl_rdE, ef, eg]
  refine lv_iload_n hx hb dX0_read_0 rfl (lv_at hl 1 rfl) ?_
  refine lv_ldc hx hb hown (hts _ q38) dX0_read_1 ?_
  refine wl_e (y := nI 2147483647) (rfl) ?_
  refine lv_iand hx hb dX0_read_3 ?_
  refine wl_e (y := nI (wl_m31 p0)) (wl_and31 p0) ?_
  refine lv_aload_n hx hb dX0_read_4 rfl (lv_at hl 0 rfl) ?_
  refine va_get (D := (dC, dI)) (ci := 0) (v := .int (nI n)) (C := RX0) (T := TX0) (N := 4) hx hb hts in_X0 hown hK hP 0 rfl rfl 2 (by decide) (hts _ q15) (fun _ h9 => h9) rfl dX0_read_5 ?_
  refine lv_iconst (v := nI 1) hx hb dX0_read_8 (by decide) ?_
  refine lv_iadd hx hb dX0_read_9 ?_
  refine wl_e (y := nI (n + 1)) (nI_add n 1) ?_
  refine lv_irem hx hb dX0_read_10 (nI_ne0 (Nat.succ_pos n) (by omega)) ?_
  refine wl_e (y := nI f) (by rw [wl_rem p0 (Nat.succ_pos n) (by omega), ef2]) ?_
  refine lv_istore_n (lv' := [(3, .int (nI f)), (0, .ref h0), (1, .int p0), (2, .int p1)]) hx hb dX0_read_11 rfl hl (by decide) rfl (fun ls hl => ?_)
  refine lv_aload_n hx hb dX0_read_12 rfl (lv_at hl 1 rfl) ?_
  refine lv_aload_n hx hb dX0_read_13 rfl (lv_at hl 1 rfl) ?_
  refine va_get (D := (dC, dI)) (ci := 0) (v := .ref h1) (C := RX0) (T := TX0) (N := 4) hx hb hts in_X0 hown hK hP 0 rfl rfl 0 (by decide) (hts _ q13) (fun _ h9 => h9) rfl dX0_read_14 ?_
  refine lv_iload_n hx hb dX0_read_17 rfl (lv_at hl 0 rfl) ?_
  refine lv_iload_n hx hb dX0_read_18 rfl (lv_at hl 3 rfl) ?_
  refine lv_ldc hx hb hown (hts _ q38) dX0_read_19 ?_
  refine wl_e (y := nI 2147483647) (rfl) ?_
  refine lv_iand hx hb dX0_read_21 ?_
  refine wl_e (y := nI (wl_m31 p1)) (wl_and31 p1) ?_
  refine lv_aload_n hx hb dX0_read_22 rfl (lv_at hl 1 rfl) ?_
  refine va_get (D := (dC, dI)) (ci := 0) (v := .int (nI n)) (C := RX0) (T := TX0) (N := 4) hx hb hts in_X0 hown hK hP 0 rfl rfl 2 (by decide) (hts _ q15) (fun _ h9 => h9) rfl dX0_read_23 ?_
  refine lv_iload_n hx hb dX0_read_26 rfl (lv_at hl 0 rfl) ?_
  refine lv_isub hx hb dX0_read_27 ?_
  refine wl_e (y := nI (n - f)) (pk_sub hf) ?_
  refine lv_iconst (v := nI 1) hx hb dX0_read_28 (by decide) ?_
  refine lv_iadd hx hb dX0_read_29 ?_
  refine wl_e (y := nI (n - f + 1)) (nI_add (n - f) 1) ?_
  refine lv_irem hx hb dX0_read_30 (nI_ne0 (Nat.succ_pos _) (by omega)) ?_
  refine wl_e (y := nI g) (by rw [wl_rem p1 (Nat.succ_pos _) (by omega), eg]) ?_
  refine lv_aload_n hx hb dX0_read_31 rfl (lv_at hl 1 rfl) ?_
  refine va_get (D := (dC, dI)) (ci := 0) (v := .ref h2) (C := RX0) (T := TX0) (N := 4) hx hb hts in_X0 hown hK hP 0 rfl rfl 1 (by decide) (hts _ q14) (fun _ h9 => h9) rfl dX0_read_32 ?_
  have hPc := hP.sub (ws' := [(h1, .inl (cB, 1024, .inl (wl_tb b))), (h2, .inl (cC, 1024, .inl (wl_ti w)))]) [1, 2] rfl
  have hDc := hD.sub (ws' := [(h1, .inl (cB, 1024, .inl (wl_tb b))), (h2, .inl (cC, 1024, .inl (wl_ti w)))]) [1, 2] (by decide) rfl
  have hFc := va_free (wc := [(h1, .inl (cB, 1024, .inl (wl_tb b))), (h2, .inl (cC, 1024, .inl (wl_ti w)))]) hD hS hA [1, 2] rfl
  refine va_calli (va_runS (As := [.ref h1, .int (nI f), .int (nI g), .ref h2]) (rest := [.ref h0]) ⟨hx, hb, hml, hown, hts⟩ (metX2_transcodeToUTF16 l dC dI h1 h2 cB cC s.heap.size b w t1 t2 f g (by omega) hby) (va_cwS 4 hts (lw_S q51 q52 q4 q53) rfl rfl rfl (by decide +kernel) ⟨Nat.le_of_ble_eq_true rfl, Nat.le_of_ble_eq_true rfl⟩) ⟨fun a U g mk q => by obtain ⟨q0, q1, qP, qK, qD, qS⟩ := q; exact ⟨q0, q1, qP, va_K.moved (u := U) (U := U.calling g mk a) (Vm.Alike.refl U.vm) qK, qD, wl_St.moved (u := U) (U := U.calling g mk a) (Vm.Alike.refl U.vm) qS⟩, fun U hU hW => ⟨rfl, by rw [hU], by rw [hU]; exact hPc, va_K.moved hW.alike hK, hDc.weaken (fun _ _ _ _ => trivial), by rw [hU]; exact (hSt.narrow hFc).moved hW.alike⟩⟩ rfl rfl hl.1 rfl (lv_room (Nat.le_of_ble_eq_true rfl)) dX0_read_35 ⟨Nat.le_of_ble_eq_true rfl, Nat.le_of_ble_eq_true rfl⟩) hS (fun q _ h => hFc q h) hFc (fun r u t H1 locs ht hvm hw hB hz1 hk1 hS => ?_)
  obtain ⟨hP1, hD1⟩ := hB
  rw [ht] at hP1
  obtain ⟨hP, hD⟩ := va_join (wr := [(h0, .inr (0, [.ref h1, .ref h2, .int (nI n), .int rd]))]) (w1 := [(h1, .inl (cB, 1024, .inl (wl_tb b))), (h2, .inl (cC, 1024, .inl (wl_ti u)))]) hP hD [1, 2] [0] rfl rfl (by decide) (by decide) hk1 hFc hP1 hD1
  generalize H1 = H at hP hS ⊢
  have hP : va_P (dC, dI) vwCl [(h0, .inr (0, [.ref h1, .ref h2, .int (nI n), .int rd])), (h1, .inl (cB, 1024, .inl (wl_tb b))), (h2, .inl (cC, 1024, .inl (wl_ti u)))] H := hP
  have hD : va_D A [(h0, .inr (0, [.ref h1, .ref h2, .int (nI n), .int rd])), (h1, .inl (cB, 1024, .inl (wl_tb b))), (h2, .inl (cC, 1024, .inl (wl_ti u)))] := hD
  refine va_put (D := (dC, dI)) (ci := 0) (v := .int r) (ty := .int) (C := RX0) (T := TX0) (N := 4) hx hb hts in_X0 tyX0 tyX0_ok nmX0 hown hK hP hD hS 0 rfl rfl 3 (by decide) (hts _ q16) (fun _ h9 => h9) rfl (by decide +kernel) rfl rfl (Nat.le_of_ble_eq_true rfl) dX0_read_38 (fun H locs hP hD hS => ?_)
  have hP : va_P (dC, dI) vwCl [(h0, .inr (0, [.ref h1, .ref h2, .int (nI n), .int r])), (h1, .inl (cB, 1024, .inl (wl_tb b))), (h2, .inl (cC, 1024, .inl (wl_ti u)))] H := hP
  have hD : va_D A [(h0, .inr (0, [.ref h1, .ref h2, .int (nI n), .int r])), (h1, .inl (cB, 1024, .inl (wl_tb b))), (h2, .inl (cC, 1024, .inl (wl_ti u)))] := hD
  refine lv_aload_n hx hb dX0_read_41 rfl (lv_at hl 1 rfl) ?_
  refine va_get (D := (dC, dI)) (ci := 0) (v := .int r) (C := RX0) (T := TX0) (N := 4) hx hb hts in_X0 hown hK hP 0 rfl rfl 3 (by decide) (hts _ q16) (fun _ h9 => h9) rfl dX0_read_42 ?_
  have e1 : (wl_read n b w p0 p1).1 = r := by rw [er, ← hw]
  have e2 : (wl_read n b w p0 p1).2 = u := by rw [er, ← hw]
  exact W.iret (v := r) hx hb hr (fun t ht hW => ⟨⟨r, (n, b, r, u), rfl, ⟨e1.symm, by rw [e1, e2]⟩, by rw [ht]; exact hP, hD⟩, hS.F ht⟩) hS.2.2 dX0_read_45
end
section
/-! WireLettersModel: push, lay -/
abbrev wsX1_push : List Cond := ws_ yX1_push cX1_push 2 none
set_option maxHeartbeats 4000000 in
set_option maxRecDepth 100000 in
/-- push(v): one byte behind the others -/
theorem metX1_push (l : Launch) (dC : Nat → ClassId) (dI : Nat → Nat → Nat) (h0 h1 h2 : Nat) (cB cC : ClassId) (sz : Nat) (n : Nat) (b : Nat → Nat) (rd : Int32) (w : Nat → Nat) (v : Nat) (hn : n < 1024) : Met l yX1_push wsX1_push ({ frames := 0, cells := 0, slots := 0, locals := 0 }) (va_Pc [.ref h0, .int (nI v)] (fun U => U.heap.size = sz ∧ va_P (dC, dI) vwCl (wX1 h0 h1 h2 cB cC n b rd w) U.heap ∧ va_K (dC, dI) vwCl [(cB, .int), (cC, .int)] U ∧ va_D (fun _ => True) (wX1 h0 h1 h2 cB cC n b rd w))) (va_Qv (fun (u : wl_S) => u = (n + 1, wl_up b n v, rd, w)) (BX1 dC dI (va_A (wX1 h0 h1 h2 cB cC n b rd w) sz) h0 h1 h2 cB cC) (va_A (wX1 h0 h1 h2 cB cC n b rd w) sz)) 0 0 (va_A (wX1 h0 h1 h2 cB cC n b rd w) sz) := by
  refine Met.ofW (cc := cX1_push) (maxL := 2) (ret := none) (by decide) rfl ?_
  intro p e s m args below meth c s₁ B hml hv
  obtain ⟨rfl, hsz, hP, hK, hD0⟩ := hv
  have hx := B.exec
  have hb := B.bytes
  have hr := B.returns
  have hts := atoms_spec (ws := wsX1_push) B.pre
  have hts : ∀ w ∈ lw_all, w.before _ s = true := fun w h => hts w (List.mem_cons_of_mem _ h)
  have hown : s.vm.findClass RX1 = some m.cls := findClass_of_methodNamed B.named
  have hlocks := B.notSynchronized
  subst hsz
  have hD := hD0.self (sz := s.heap.size)
  generalize hAe : va_A (wX1 h0 h1 h2 cB cC n b rd w) s.heap.size = A at hD ⊢
  have hA : ∀ q : Nat, s.heap.size ≤ q → A q := fun q h => by rw [← hAe]; exact Or.inr h
  have hS : va_S A s.heap s.heap [] := va_S.rf
  have hP : va_P (dC, dI) vwCl [(h0, .inr (1, [.ref h1, .ref h2, .int (nI n), .int rd])), (h1, .inl (cB, 1024, .inl (wl_ti b))), (h2, .inl (cC, 1024, .inl (wl_ti w)))] s.heap := hP
  have hD : va_D A [(h0, .inr (1, [.ref h1, .ref h2, .int (nI n), .int rd])), (h1, .inl (cB, 1024, .inl (wl_ti b))), (h2, .inl (cC, 1024, .inl (wl_ti w)))] := hD
  have hl := lv_entry ([.ref h0, .int (nI v)]) (n := 2) (Nat.le_of_ble_eq_true rfl)
  rw [lg_entry_eq]
  generalize (lg_sl ([.ref h0, .int (nI v)]) ++ List.replicate (2 - (lg_sl ([.ref h0, .int (nI v)])).length) Slot.unset).toArray = ls at hl ⊢
  have hl : lv_has ls 2 [(0, .ref h0), (1, .int (nI v))] := hl
  refine lv_aload_n hx hb dX1_push_0 rfl (lv_at hl 0 rfl) ?_
  refine va_get (D := (dC, dI)) (ci := 1) (v := .ref h1) (C := RX1) (T := TX1) (N := 4) hx hb hts in_X1 hown hK hP 0 rfl rfl 0 (by decide) (hts _ q71) (fun _ h9 => h9) rfl dX1_push_1 ?_
  refine lv_aload_n hx hb dX1_push_4 rfl (lv_at hl 0 rfl) ?_
  refine va_get (D := (dC, dI)) (ci := 1) (v := .int (nI n)) (C := RX1) (T := TX1) (N := 4) hx hb hts in_X1 hown hK hP 0 rfl rfl 2 (by decide) (hts _ q73) (fun _ h9 => h9) rfl dX1_push_5 ?_
  refine lv_iload_n hx hb dX1_push_8 rfl (lv_at hl 1 rfl) ?_
  refine wl_iast (F := wl_ti (wl_up b n v)) hx hb hK hP hD hS 1 0 rfl rfl (vp_in_nI (by omega) (by decide)) dX1_push_9 (wl_upI (nI_clamp (by omega)) rfl) (fun H locs hP hD hS => ?_)
  have hP : va_P (dC, dI) vwCl [(h0, .inr (1, [.ref h1, .ref h2, .int (nI n), .int rd])), (h1, .inl (cB, 1024, .inl (wl_ti (wl_up b n v)))), (h2, .inl (cC, 1024, .inl (wl_ti w)))] H := hP
  have hD : va_D A [(h0, .inr (1, [.ref h1, .ref h2, .int (nI n), .int rd])), (h1, .inl (cB, 1024, .inl (wl_ti (wl_up b n v)))), (h2, .inl (cC, 1024, .inl (wl_ti w)))] := hD
  refine lv_aload_n hx hb dX1_push_10 rfl (lv_at hl 0 rfl) ?_
  refine lv_dup hx hb dX1_push_11 rfl ?_
  refine va_get (D := (dC, dI)) (ci := 1) (v := .int (nI n)) (C := RX1) (T := TX1) (N := 4) hx hb hts in_X1 hown hK hP 0 rfl rfl 2 (by decide) (hts _ q73) (fun _ h9 => h9) rfl dX1_push_12 ?_
  refine lv_iconst (v := nI 1) hx hb dX1_push_15 (by decide) ?_
  refine lv_iadd hx hb dX1_push_16 ?_
  refine wl_e (y := nI (n + 1)) (nI_add n 1) ?_
  refine va_put (D := (dC, dI)) (ci := 1) (v := .int (nI (n + 1))) (ty := .int) (C := RX1) (T := TX1) (N := 4) hx hb hts in_X1 tyX1 tyX1_ok nmX1 hown hK hP hD hS 0 rfl rfl 2 (by decide) (hts _ q73) (fun _ h9 => h9) rfl (by decide +kernel) rfl rfl (Nat.le_of_ble_eq_true rfl) dX1_push_17 (fun H locs hP hD hS => ?_)
  have hP : va_P (dC, dI) vwCl [(h0, .inr (1, [.ref h1, .ref h2, .int (nI (n + 1)), .int rd])), (h1, .inl (cB, 1024, .inl (wl_ti (wl_up b n v)))), (h2, .inl (cC, 1024, .inl (wl_ti w)))] H := hP
  have hD : va_D A [(h0, .inr (1, [.ref h1, .ref h2, .int (nI (n + 1)), .int rd])), (h1, .inl (cB, 1024, .inl (wl_ti (wl_up b n v)))), (h2, .inl (cC, 1024, .inl (wl_ti w)))] := hD
  exact W.vret hx hb hr (fun t ht hW => ⟨⟨(n + 1, wl_up b n v, rd, w), rfl, rfl, by rw [ht]; exact hP, hD⟩, hS.F ht⟩) hS.2.2 dX1_push_20
abbrev wsX1_lay : List Cond := ws_ yX1_lay cX1_lay 5 (some .int)
set_option maxHeartbeats 4000000 in
set_option maxRecDepth 100000 in
/-- the reference's loop: c2 more pushes -/
theorem x1_layloop {p : Program} {l : Launch} {e : Env} {s : State} {m : MethodId} {args : Array Value} {below : List Frame} {meth : Method} {c : Code} {dC : Nat → ClassId} {dI : Nat → Nat → Nat} {A : Nat → Prop} {h0 h1 h2 : Nat} {cB cC : ClassId} {D : Nat × (Nat → Nat)} {rd : Int32} {w : Nat → Nat} {v : Nat} (hx : p.tables.exec = Jvm.exec) (hb : c.code = cX1_lay) (hr : meth.sig.returnType = some .int) (hlocks : meth.locks = false) (hml : c.maxLocals = 5) (hown : s.vm.findClass RX1 = some m.cls) (hts : ∀ w ∈ lw_all, w.before args s = true) (hA : ∀ q : Nat, s.heap.size ≤ q → A q) (hK : va_K (dC, dI) vwCl [(cB, .int), (cC, .int)] s) (hv : v < 2097152) :
    ∀ (c2 n : Nat) (b : Nat → Nat) (H : Heap) (locs : List Loc), c2 ≤ 3 → n + c2 ≤ 1024 → D = wl_push v c2 n b → va_P (dC, dI) vwCl [(h0, .inr (1, [.ref h1, .ref h2, .int (nI n), .int rd])), (h1, .inl (cB, 1024, .inl (wl_ti b))), (h2, .inl (cC, 1024, .inl (wl_ti w)))] H → va_D A [(h0, .inr (1, [.ref h1, .ref h2, .int (nI n), .int rd])), (h1, .inl (cB, 1024, .inl (wl_ti b))), (h2, .inl (cC, 1024, .inl (wl_ti w)))] → va_S A s.heap H locs → ∀ (ls : Array Slot), lv_has ls 5 [(0, .ref h0), (2, .int (nI v)), (4, .int (nI c2 - nI 1))] → W p l e (headSpec wsX1_lay ({ frames := 1, cells := 0, slots := 0, locals := 21 })).room s m args below meth c H locs 0 0 (MQ below (va_Qi (fun (r : Int32) (u : wl_S) => r = nI D.1 ∧ u = (D.1, D.2, rd, w)) (BX1 dC dI A h0 h1 h2 cB cC) A) args s 0 0 A) (F0 m 108 ls []) := by
  intro c2
  induction c2 with
  | zero =>
    intro n b H locs h3 hn hDd hP hD hS ls hl
    refine lv_iload hx hb dX1_lay_108 (lv_at hl 2 rfl) ?_
    refine lv_if_lt (tgt := 137) hx hb dX1_lay_110 (by decide) (fun _ => ?_) (fun q => absurd (by decide) q)
    refine lv_aload_n hx hb dX1_lay_137 rfl (lv_at hl 0 rfl) ?_
    refine va_get (D := (dC, dI)) (ci := 1) (v := .int (nI n)) (C := RX1) (T := TX1) (N := 4) hx hb hts in_X1 hown hK hP 0 rfl rfl 2 (by decide) (hts _ q73) (fun _ h9 => h9) rfl dX1_lay_138 ?_
    exact W.iret (v := nI n) hx hb hr (fun t ht hW => ⟨⟨(nI n), (n, b, rd, w), rfl, by rw [hDd]; exact ⟨rfl, rfl⟩, by rw [ht]; exact hP, hD⟩, hS.F ht⟩) hS.2.2 dX1_lay_141
  | succ c2 ih =>
    intro n b H locs h3 hn hDd hP hD hS ls hl
    refine lv_iload hx hb dX1_lay_108 (lv_at hl 2 rfl) ?_
    have es : nI (c2 + 1) - nI 1 = nI c2 := pk_sub (by omega)
    refine wl_e (y := nI c2) (es) ?_
    refine wl_jpos (u := c2) (tgt := 137) hx hb dX1_lay_110 (by decide) (by omega) ?_
    refine lv_aload_n hx hb dX1_lay_113 rfl (lv_at hl 0 rfl) ?_
    refine lv_sipush (v := nI 128) hx hb dX1_lay_114 (by decide) ?_
    refine lv_iload_n hx hb dX1_lay_117 rfl (lv_at hl 1 rfl) ?_
    refine lv_bipush (v := nI 6) hx hb dX1_lay_118 (by decide) ?_
    refine lv_iload hx hb dX1_lay_120 (lv_at hl 2 rfl) ?_
    refine wl_e (y := nI c2) (es) ?_
    refine lv_imul hx hb dX1_lay_122 ?_
    refine wl_e (y := nI (6 * c2)) (pk_mul 6 c2) ?_
    refine lv_ishr hx hb dX1_lay_123 ?_
    refine wl_e (y := nI (v / 2 ^ (6 * c2))) (wl_shr (by omega) (wl_shc c2 (by omega))) ?_
    have hlt : v / 2 ^ (6 * c2) ≤ v := Nat.div_le_self _ _
    refine lv_bipush (v := nI 63) hx hb dX1_lay_124 (by decide) ?_
    refine lv_iand hx hb dX1_lay_126 ?_
    refine wl_e (y := nI (v / 2 ^ (6 * c2) % 64)) (pk_andN (by omega) 6 (by decide)) ?_
    refine lv_iadd hx hb dX1_lay_127 ?_
    refine wl_e (y := nI (128 + v / 2 ^ (6 * c2) % 64)) (nI_add _ _) ?_
    have hFc := va_free (wc := [(h0, .inr (1, [.ref h1, .ref h2, .int (nI n), .int rd])), (h1, .inl (cB, 1024, .inl (wl_ti b))), (h2, .inl (cC, 1024, .inl (wl_ti w)))]) hD hS hA [0, 1, 2] rfl
    refine va_callv (va_runV (As := [.int (nI (128 + v / 2 ^ (6 * c2) % 64))]) (rest := []) ⟨hx, hb, hml, hown, hts⟩ (metX1_push l dC dI h0 h1 h2 cB cC _ n b rd w (128 + v / 2 ^ (6 * c2) % 64) (by omega)) (cwV 1 hts (lw_V q91 q93 qs0 q3 q94) rfl rfl rfl (by decide +kernel) ⟨Nat.le_of_ble_eq_true rfl, Nat.le_of_ble_eq_true rfl⟩) ⟨fun a U g mk q => by obtain ⟨q0, q1, qP, qK, qD⟩ := q; exact ⟨q0, q1, qP, va_K.moved (u := U) (U := U.calling g mk a) (Vm.Alike.refl U.vm) qK, qD⟩, va_recv hK hP (ci := 1) (q0 := 0) rfl rfl, fun U hU hW => ⟨rfl, by rw [hU], by rw [hU]; exact hP, va_K.moved hW.alike hK, hD.weaken (fun _ _ _ _ => trivial)⟩⟩ rfl rfl hl.1 rfl (lv_room (Nat.le_of_ble_eq_true rfl)) dX1_lay_128 ⟨Nat.le_of_ble_eq_true rfl, Nat.le_of_ble_eq_true rfl⟩) hS (fun q _ h => hFc q h) hFc (fun u t H1 locs ht hvm hw hB hz1 hk1 hS => ?_)
    subst hw
    obtain ⟨hP1, hD1⟩ := hB
    rw [ht] at hP1
    obtain ⟨hP, hD⟩ := va_join (wr := []) (w1 := [(h0, .inr (1, [.ref h1, .ref h2, .int (nI (n + 1)), .int rd])), (h1, .inl (cB, 1024, .inl (wl_ti (wl_up b n (128 + v / 2 ^ (6 * c2) % 64))))), (h2, .inl (cC, 1024, .inl (wl_ti w)))]) hP hD [0, 1, 2] [] rfl rfl (by decide) (by decide) hk1 hFc hP1 hD1
    generalize H1 = H at hP hS ⊢
    have hP : va_P (dC, dI) vwCl [(h0, .inr (1, [.ref h1, .ref h2, .int (nI (n + 1)), .int rd])), (h1, .inl (cB, 1024, .inl (wl_ti (wl_up b n (128 + v / 2 ^ (6 * c2) % 64))))), (h2, .inl (cC, 1024, .inl (wl_ti w)))] H := hP
    have hD : va_D A [(h0, .inr (1, [.ref h1, .ref h2, .int (nI (n + 1)), .int rd])), (h1, .inl (cB, 1024, .inl (wl_ti (wl_up b n (128 + v / 2 ^ (6 * c2) % 64))))), (h2, .inl (cC, 1024, .inl (wl_ti w)))] := hD
    refine lv_iinc (v := nI c2 - nI 1) (lv' := [(4, .int (nI c2 - nI 1)), (0, .ref h0), (2, .int (nI v))]) hx hb dX1_lay_131 hl (k := 2) rfl (by rw [es, Int32.sub_eq_add_neg]; rfl) (by decide) rfl (fun ls hl => ?_)
    refine lv_goto (tgt := 108) hx hb dX1_lay_134 (by decide) ?_
    exact ih (n + 1) _ H locs (by omega) (by omega) hDd hP hD hS ls (lv_sub hl [1, 2, 0] rfl)
theorem wl_push_1 {n v : Nat} {b : Nat → Nat} (h1 : ¬ v < 128) (h2 : v < 2048) : (wl_layN n v, wl_layB n b v) = wl_push v 1 (n + 1) (wl_up b n (192 + v / 64)) := by
  rw [wl_layN, wl_layB, if_neg h1, if_neg h1, if_pos h2, if_pos h2]
  show _ = (n + 1 + 1, wl_up (wl_up b n (192 + v / 64)) (n + 1) (128 + v / 1 % 64))
  rw [Nat.div_one]
theorem wl_push_2 {n v : Nat} {b : Nat → Nat} (h1 : ¬ v < 128) (h2 : ¬ v < 2048) (h3 : v < 65536) : (wl_layN n v, wl_layB n b v) = wl_push v 2 (n + 1) (wl_up b n (224 + v / 4096)) := by
  rw [wl_layN, wl_layB, if_neg h1, if_neg h1, if_neg h2, if_neg h2, if_pos h3, if_pos h3]
  show _ = (n + 1 + 1 + 1, wl_up (wl_up (wl_up b n (224 + v / 4096)) (n + 1) (128 + v / 64 % 64)) (n + 1 + 1) (128 + v / 1 % 64))
  rw [Nat.div_one]
theorem wl_push_3 {n v : Nat} {b : Nat → Nat} (h1 : ¬ v < 128) (h2 : ¬ v < 2048) (h3 : ¬ v < 65536) : (wl_layN n v, wl_layB n b v) = wl_push v 3 (n + 1) (wl_up b n (240 + v / 262144)) := by
  rw [wl_layN, wl_layB, if_neg h1, if_neg h1, if_neg h2, if_neg h2, if_neg h3, if_neg h3]
  show _ = (n + 1 + 1 + 1 + 1, wl_up (wl_up (wl_up (wl_up b n (240 + v / 262144)) (n + 1) (128 + v / 4096 % 64)) (n + 1 + 1) (128 + v / 64 % 64)) (n + 1 + 1 + 1) (128 + v / 1 % 64))
  rw [Nat.div_one]
set_option maxHeartbeats 4000000 in
set_option maxRecDepth 100000 in
/-- lay(c): the letter in UTF-8 behind the bytes -/
theorem metX1_lay (l : Launch) (dC : Nat → ClassId) (dI : Nat → Nat → Nat) (h0 h1 h2 : Nat) (cB cC : ClassId) (sz : Nat) (n : Nat) (b : Nat → Nat) (rd : Int32) (w : Nat → Nat) (p0 : Int32) (hn : n ≤ 1024) : Met l yX1_lay wsX1_lay ({ frames := 1, cells := 0, slots := 0, locals := 21 }) (va_Pc [.ref h0, .int p0] (fun U => U.heap.size = sz ∧ va_P (dC, dI) vwCl (wX1 h0 h1 h2 cB cC n b rd w) U.heap ∧ va_K (dC, dI) vwCl [(cB, .int), (cC, .int)] U ∧ va_D (fun _ => True) (wX1 h0 h1 h2 cB cC n b rd w))) (va_Qi (fun (r : Int32) (u : wl_S) => r = (wl_lay n b p0).1 ∧ u = ((wl_lay n b p0).2.1, (wl_lay n b p0).2.2, rd, w)) (BX1 dC dI (va_A (wX1 h0 h1 h2 cB cC n b rd w) sz) h0 h1 h2 cB cC) (va_A (wX1 h0 h1 h2 cB cC n b rd w) sz)) 0 0 (va_A (wX1 h0 h1 h2 cB cC n b rd w) sz) := by
  refine Met.ofW (cc := cX1_lay) (maxL := 5) (ret := (some .int)) (by decide) rfl ?_
  intro p e s m args below meth c s₁ B hml hv
  obtain ⟨rfl, hsz, hP, hK, hD0⟩ := hv
  have hx := B.exec
  have hb := B.bytes
  have hr := B.returns
  have hts := atoms_spec (ws := wsX1_lay) B.pre
  have hts : ∀ w ∈ lw_all, w.before _ s = true := fun w h => hts w (List.mem_cons_of_mem _ h)
  have hown : s.vm.findClass RX1 = some m.cls := findClass_of_methodNamed B.named
  have hlocks := B.notSynchronized
  subst hsz
  have hD := hD0.self (sz := s.heap.size)
  generalize hAe : va_A (wX1 h0 h1 h2 cB cC n b rd w) s.heap.size = A at hD ⊢
  have hA : ∀ q : Nat, s.heap.size ≤ q → A q := fun q h => by rw [← hAe]; exact Or.inr h
  have hS : va_S A s.heap s.heap [] := va_S.rf
  have hP : va_P (dC, dI) vwCl [(h0, .inr (1, [.ref h1, .ref h2, .int (nI n), .int rd])), (h1, .inl (cB, 1024, .inl (wl_ti b))), (h2, .inl (cC, 1024, .inl (wl_ti w)))] s.heap := hP
  have hD : va_D A [(h0, .inr (1, [.ref h1, .ref h2, .int (nI n), .int rd])), (h1, .inl (cB, 1024, .inl (wl_ti b))), (h2, .inl (cC, 1024, .inl (wl_ti w)))] := hD
  have hl := lv_entry ([.ref h0, .int p0]) (n := 5) (Nat.le_of_ble_eq_true rfl)
  rw [lg_entry_eq]
  generalize (lg_sl ([.ref h0, .int p0]) ++ List.replicate (5 - (lg_sl ([.ref h0, .int p0])).length) Slot.unset).toArray = ls at hl ⊢
  have hl : lv_has ls 5 [(0, .ref h0), (1, .int p0)] := hl
  refine lv_aload_n hx hb dX1_lay_0 rfl (lv_at hl 0 rfl) ?_
  refine va_get (D := (dC, dI)) (ci := 1) (v := .int (nI n)) (C := RX1) (T := TX1) (N := 4) hx hb hts in_X1 hown hK hP 0 rfl rfl 2 (by decide) (hts _ q73) (fun _ h9 => h9) rfl dX1_lay_1 ?_
  refine lv_sipush (v := nI 1020) hx hb dX1_lay_4 (by decide) ?_
  refine wl_jle (u := n) (v := 1020) (tgt := 12) hx hb dX1_lay_7 (by decide) (by omega) (by omega) (fun q => ?_) (fun q => ?_)
  · obtain ⟨v, ev, hv⟩ : ∃ v, wl_m21 p0 = v ∧ v < 2097152 := ⟨_, rfl, wl_m21_lt p0⟩
    have el : wl_lay n b p0 = (nI (wl_layN n v), wl_layN n v, wl_layB n b v) := by rw [wl_lay, if_neg (by omega), ev]
    rw [el]
    refine lv_iload_n hx hb dX1_lay_12 rfl (lv_at hl 1 rfl) ?_
    refine lv_ldc hx hb hown (hts _ q89) dX1_lay_13 ?_
    refine wl_e (y := nI 2097151) (rfl) ?_
    refine lv_iand hx hb dX1_lay_15 ?_
    refine wl_e (y := nI v) (by rw [wl_and21, ev]) ?_
    refine lv_istore_n (lv' := [(2, .int (nI v)), (0, .ref h0), (1, .int p0)]) hx hb dX1_lay_16 rfl hl (by decide) rfl (fun ls hl => ?_)
    refine lv_iload_n hx hb dX1_lay_17 rfl (lv_at hl 0 rfl) ?_
    refine lv_sipush (v := nI 128) hx hb dX1_lay_18 (by decide) ?_
    refine wl_jge (u := v) (v := 128) (tgt := 28) hx hb dX1_lay_21 (by decide) (by omega) (by omega) (fun c0 => ?_) (fun c0 => ?_)
    · refine lv_iload_n hx hb dX1_lay_28 rfl (lv_at hl 0 rfl) ?_
      refine lv_sipush (v := nI 2048) hx hb dX1_lay_29 (by decide) ?_
      refine wl_jge (u := v) (v := 2048) (tgt := 39) hx hb dX1_lay_32 (by decide) (by omega) (by omega) (fun c1 => ?_) (fun c1 => ?_)
      · refine lv_iload_n hx hb dX1_lay_39 rfl (lv_at hl 0 rfl) ?_
        refine lv_ldc hx hb hown (hts _ q90) dX1_lay_40 ?_
        refine wl_e (y := nI 65536) (rfl) ?_
        refine wl_jge (u := v) (v := 65536) (tgt := 49) hx hb dX1_lay_42 (by decide) (by omega) (by omega) (fun c2 => ?_) (fun c2 => ?_)
        · refine lv_iconst (v := nI 3) hx hb dX1_lay_49 (by decide) ?_
          refine lv_istore_n (lv' := [(3, .int (nI 3)), (2, .int (nI v)), (0, .ref h0), (1, .int p0)]) hx hb dX1_lay_50 rfl hl (by decide) rfl (fun ls hl => ?_)
          refine lv_iload_n hx hb dX1_lay_51 rfl (lv_at hl 0 rfl) ?_
          refine wl_jz (u := 3) (tgt := 63) hx hb dX1_lay_52 (by decide) (by decide) (fun _ => ?_) (fun z => absurd z (by decide))
          refine lv_aload_n hx hb dX1_lay_63 rfl (lv_at hl 2 rfl) ?_
          refine lv_iload_n hx hb dX1_lay_64 rfl (lv_at hl 0 rfl) ?_
          refine lv_iconst (v := nI 1) hx hb dX1_lay_65 (by decide) ?_
          refine wl_jne (u := 3) (v := 1) (tgt := 75) hx hb dX1_lay_66 (by decide) (by decide) (by decide) (fun _ => ?_) (fun z => absurd z (by decide))
          refine lv_iload_n hx hb dX1_lay_75 rfl (lv_at hl 0 rfl) ?_
          refine lv_iconst (v := nI 2) hx hb dX1_lay_76 (by decide) ?_
          refine wl_jne (u := 3) (v := 2) (tgt := 86) hx hb dX1_lay_77 (by decide) (by decide) (by decide) (fun _ => ?_) (fun z => absurd z (by decide))
          refine lv_sipush (v := nI 240) hx hb dX1_lay_86 (by decide) ?_
          refine lv_iload_n hx hb dX1_lay_89 rfl (lv_at hl 1 rfl) ?_
          refine lv_bipush (v := nI 6) hx hb dX1_lay_90 (by decide) ?_
          refine lv_iload_n hx hb dX1_lay_92 rfl (lv_at hl 0 rfl) ?_
          refine lv_imul hx hb dX1_lay_93 ?_
          refine wl_e (y := nI 18) (by decide) ?_
          refine lv_ishr hx hb dX1_lay_94 ?_
          refine wl_e (y := nI (v / 262144)) (wl_shr (k := 18) (by omega) (by decide)) ?_
          refine lv_iadd hx hb dX1_lay_95 ?_
          refine wl_e (y := nI (240 + v / 262144)) (nI_add _ _) ?_
          refine lv_sipush (v := nI 255) hx hb dX1_lay_96 (by decide) ?_
          refine lv_iand hx hb dX1_lay_99 ?_
          refine wl_e (y := nI (240 + v / 262144)) ((pk_andN (by omega) 8 (by decide)).trans (congrArg nI (Nat.mod_eq_of_lt (by omega)))) ?_
          have hFc := va_free (wc := [(h0, .inr (1, [.ref h1, .ref h2, .int (nI n), .int rd])), (h1, .inl (cB, 1024, .inl (wl_ti b))), (h2, .inl (cC, 1024, .inl (wl_ti w)))]) hD hS hA [0, 1, 2] rfl
          refine va_callv (va_runV (As := [.int (nI (240 + v / 262144))]) (rest := []) ⟨hx, hb, hml, hown, hts⟩ (metX1_push l dC dI h0 h1 h2 cB cC _ n b rd w (240 + v / 262144) (by omega)) (cwV 1 hts (lw_V q91 q93 qs0 q3 q94) rfl rfl rfl (by decide +kernel) ⟨Nat.le_of_ble_eq_true rfl, Nat.le_of_ble_eq_true rfl⟩) ⟨fun a U g mk q => by obtain ⟨q0, q1, qP, qK, qD⟩ := q; exact ⟨q0, q1, qP, va_K.moved (u := U) (U := U.calling g mk a) (Vm.Alike.refl U.vm) qK, qD⟩, va_recv hK hP (ci := 1) (q0 := 0) rfl rfl, fun U hU hW => ⟨rfl, by rw [hU], by rw [hU]; exact hP, va_K.moved hW.alike hK, hD.weaken (fun _ _ _ _ => trivial)⟩⟩ rfl rfl hl.1 rfl (lv_room (Nat.le_of_ble_eq_true rfl)) dX1_lay_100 ⟨Nat.le_of_ble_eq_true rfl, Nat.le_of_ble_eq_true rfl⟩) hS (fun q _ h => hFc q h) hFc (fun u t H1 locs ht hvm hw hB hz1 hk1 hS => ?_)
          subst hw
          obtain ⟨hP1, hD1⟩ := hB
          rw [ht] at hP1
          obtain ⟨hP, hD⟩ := va_join (wr := []) (w1 := [(h0, .inr (1, [.ref h1, .ref h2, .int (nI (n + 1)), .int rd])), (h1, .inl (cB, 1024, .inl (wl_ti (wl_up b n (240 + v / 262144))))), (h2, .inl (cC, 1024, .inl (wl_ti w)))]) hP hD [0, 1, 2] [] rfl rfl (by decide) (by decide) hk1 hFc hP1 hD1
          generalize H1 = H at hP hS ⊢
          have hP : va_P (dC, dI) vwCl [(h0, .inr (1, [.ref h1, .ref h2, .int (nI (n + 1)), .int rd])), (h1, .inl (cB, 1024, .inl (wl_ti (wl_up b n (240 + v / 262144))))), (h2, .inl (cC, 1024, .inl (wl_ti w)))] H := hP
          have hD : va_D A [(h0, .inr (1, [.ref h1, .ref h2, .int (nI (n + 1)), .int rd])), (h1, .inl (cB, 1024, .inl (wl_ti (wl_up b n (240 + v / 262144))))), (h2, .inl (cC, 1024, .inl (wl_ti w)))] := hD
          refine lv_iload_n hx hb dX1_lay_103 rfl (lv_at hl 0 rfl) ?_
          refine lv_iconst (v := nI 1) hx hb dX1_lay_104 (by decide) ?_
          refine lv_isub hx hb dX1_lay_105 ?_
          refine lv_istore (lv' := [(4, .int (nI 3 - nI 1)), (3, .int (nI 3)), (2, .int (nI v)), (0, .ref h0), (1, .int p0)]) hx hb dX1_lay_106 hl (by decide) rfl (fun ls hl => ?_)
          exact x1_layloop (D := (wl_layN n v, wl_layB n b v)) hx hb hr hlocks hml hown hts hA hK hv 3 (n + 1) _ H locs (by decide) (by omega) (wl_push_3 (by omega) (by omega) (by omega)) hP hD hS ls (lv_sub hl [3, 2, 0] rfl)
        · refine lv_iconst (v := nI 2) hx hb dX1_lay_45 (by decide) ?_
          refine lv_goto (tgt := 50) hx hb dX1_lay_46 (by decide) ?_
          refine lv_istore_n (lv' := [(3, .int (nI 2)), (2, .int (nI v)), (0, .ref h0), (1, .int p0)]) hx hb dX1_lay_50 rfl hl (by decide) rfl (fun ls hl => ?_)
          refine lv_iload_n hx hb dX1_lay_51 rfl (lv_at hl 0 rfl) ?_
          refine wl_jz (u := 2) (tgt := 63) hx hb dX1_lay_52 (by decide) (by decide) (fun _ => ?_) (fun z => absurd z (by decide))
          refine lv_aload_n hx hb dX1_lay_63 rfl (lv_at hl 2 rfl) ?_
          refine lv_iload_n hx hb dX1_lay_64 rfl (lv_at hl 0 rfl) ?_
          refine lv_iconst (v := nI 1) hx hb dX1_lay_65 (by decide) ?_
          refine wl_jne (u := 2) (v := 1) (tgt := 75) hx hb dX1_lay_66 (by decide) (by decide) (by decide) (fun _ => ?_) (fun z => absurd z (by decide))
          refine lv_iload_n hx hb dX1_lay_75 rfl (lv_at hl 0 rfl) ?_
          refine lv_iconst (v := nI 2) hx hb dX1_lay_76 (by decide) ?_
          refine wl_jne (u := 2) (v := 2) (tgt := 86) hx hb dX1_lay_77 (by decide) (by decide) (by decide) (fun z => absurd rfl z) (fun _ => ?_)
          refine lv_sipush (v := nI 224) hx hb dX1_lay_80 (by decide) ?_
          refine lv_goto (tgt := 89) hx hb dX1_lay_83 (by decide) ?_
          refine lv_iload_n hx hb dX1_lay_89 rfl (lv_at hl 1 rfl) ?_
          refine lv_bipush (v := nI 6) hx hb dX1_lay_90 (by decide) ?_
          refine lv_iload_n hx hb dX1_lay_92 rfl (lv_at hl 0 rfl) ?_
          refine lv_imul hx hb dX1_lay_93 ?_
          refine wl_e (y := nI 12) (by decide) ?_
          refine lv_ishr hx hb dX1_lay_94 ?_
          refine wl_e (y := nI (v / 4096)) (wl_shr (k := 12) (by omega) (by decide)) ?_
          refine lv_iadd hx hb dX1_lay_95 ?_
          refine wl_e (y := nI (224 + v / 4096)) (nI_add _ _) ?_
          refine lv_sipush (v := nI 255) hx hb dX1_lay_96 (by decide) ?_
          refine lv_iand hx hb dX1_lay_99 ?_
          refine wl_e (y := nI (224 + v / 4096)) ((pk_andN (by omega) 8 (by decide)).trans (congrArg nI (Nat.mod_eq_of_lt (by omega)))) ?_
          have hFc := va_free (wc := [(h0, .inr (1, [.ref h1, .ref h2, .int (nI n), .int rd])), (h1, .inl (cB, 1024, .inl (wl_ti b))), (h2, .inl (cC, 1024, .inl (wl_ti w)))]) hD hS hA [0, 1, 2] rfl
          refine va_callv (va_runV (As := [.int (nI (224 + v / 4096))]) (rest := []) ⟨hx, hb, hml, hown, hts⟩ (metX1_push l dC dI h0 h1 h2 cB cC _ n b rd w (224 + v / 4096) (by omega)) (cwV 1 hts (lw_V q91 q93 qs0 q3 q94) rfl rfl rfl (by decide +kernel) ⟨Nat.le_of_ble_eq_true rfl, Nat.le_of_ble_eq_true rfl⟩) ⟨fun a U g mk q => by obtain ⟨q0, q1, qP, qK, qD⟩ := q; exact ⟨q0, q1, qP, va_K.moved (u := U) (U := U.calling g mk a) (Vm.Alike.refl U.vm) qK, qD⟩, va_recv hK hP (ci := 1) (q0 := 0) rfl rfl, fun U hU hW => ⟨rfl, by rw [hU], by rw [hU]; exact hP, va_K.moved hW.alike hK, hD.weaken (fun _ _ _ _ => trivial)⟩⟩ rfl rfl hl.1 rfl (lv_room (Nat.le_of_ble_eq_true rfl)) dX1_lay_100 ⟨Nat.le_of_ble_eq_true rfl, Nat.le_of_ble_eq_true rfl⟩) hS (fun q _ h => hFc q h) hFc (fun u t H1 locs ht hvm hw hB hz1 hk1 hS => ?_)
          subst hw
          obtain ⟨hP1, hD1⟩ := hB
          rw [ht] at hP1
          obtain ⟨hP, hD⟩ := va_join (wr := []) (w1 := [(h0, .inr (1, [.ref h1, .ref h2, .int (nI (n + 1)), .int rd])), (h1, .inl (cB, 1024, .inl (wl_ti (wl_up b n (224 + v / 4096))))), (h2, .inl (cC, 1024, .inl (wl_ti w)))]) hP hD [0, 1, 2] [] rfl rfl (by decide) (by decide) hk1 hFc hP1 hD1
          generalize H1 = H at hP hS ⊢
          have hP : va_P (dC, dI) vwCl [(h0, .inr (1, [.ref h1, .ref h2, .int (nI (n + 1)), .int rd])), (h1, .inl (cB, 1024, .inl (wl_ti (wl_up b n (224 + v / 4096))))), (h2, .inl (cC, 1024, .inl (wl_ti w)))] H := hP
          have hD : va_D A [(h0, .inr (1, [.ref h1, .ref h2, .int (nI (n + 1)), .int rd])), (h1, .inl (cB, 1024, .inl (wl_ti (wl_up b n (224 + v / 4096))))), (h2, .inl (cC, 1024, .inl (wl_ti w)))] := hD
          refine lv_iload_n hx hb dX1_lay_103 rfl (lv_at hl 0 rfl) ?_
          refine lv_iconst (v := nI 1) hx hb dX1_lay_104 (by decide) ?_
          refine lv_isub hx hb dX1_lay_105 ?_
          refine lv_istore (lv' := [(4, .int (nI 2 - nI 1)), (3, .int (nI 2)), (2, .int (nI v)), (0, .ref h0), (1, .int p0)]) hx hb dX1_lay_106 hl (by decide) rfl (fun ls hl => ?_)
          exact x1_layloop (D := (wl_layN n v, wl_layB n b v)) hx hb hr hlocks hml hown hts hA hK hv 2 (n + 1) _ H locs (by decide) (by omega) (wl_push_2 (by omega) (by omega) c2) hP hD hS ls (lv_sub hl [3, 2, 0] rfl)
      · refine lv_iconst (v := nI 1) hx hb dX1_lay_35 (by decide) ?_
        refine lv_goto (tgt := 50) hx hb dX1_lay_36 (by decide) ?_
        refine lv_istore_n (lv' := [(3, .int (nI 1)), (2, .int (nI v)), (0, .ref h0), (1, .int p0)]) hx hb dX1_lay_50 rfl hl (by decide) rfl (fun ls hl => ?_)
        refine lv_iload_n hx hb dX1_lay_51 rfl (lv_at hl 0 rfl) ?_
        refine wl_jz (u := 1) (tgt := 63) hx hb dX1_lay_52 (by decide) (by decide) (fun _ => ?_) (fun z => absurd z (by decide))
        refine lv_aload_n hx hb dX1_lay_63 rfl (lv_at hl 2 rfl) ?_
        refine lv_iload_n hx hb dX1_lay_64 rfl (lv_at hl 0 rfl) ?_
        refine lv_iconst (v := nI 1) hx hb dX1_lay_65 (by decide) ?_
        refine wl_jne (u := 1) (v := 1) (tgt := 75) hx hb dX1_lay_66 (by decide) (by decide) (by decide) (fun z => absurd rfl z) (fun _ => ?_)
        refine lv_sipush (v := nI 192) hx hb dX1_lay_69 (by decide) ?_
        refine lv_goto (tgt := 89) hx hb dX1_lay_72 (by decide) ?_
        refine lv_iload_n hx hb dX1_lay_89 rfl (lv_at hl 1 rfl) ?_
        refine lv_bipush (v := nI 6) hx hb dX1_lay_90 (by decide) ?_
        refine lv_iload_n hx hb dX1_lay_92 rfl (lv_at hl 0 rfl) ?_
        refine lv_imul hx hb dX1_lay_93 ?_
        refine wl_e (y := nI 6) (by decide) ?_
        refine lv_ishr hx hb dX1_lay_94 ?_
        refine wl_e (y := nI (v / 64)) (wl_shr (k := 6) (by omega) (by decide)) ?_
        refine lv_iadd hx hb dX1_lay_95 ?_
        refine wl_e (y := nI (192 + v / 64)) (nI_add _ _) ?_
        refine lv_sipush (v := nI 255) hx hb dX1_lay_96 (by decide) ?_
        refine lv_iand hx hb dX1_lay_99 ?_
        refine wl_e (y := nI (192 + v / 64)) ((pk_andN (by omega) 8 (by decide)).trans (congrArg nI (Nat.mod_eq_of_lt (by omega)))) ?_
        have hFc := va_free (wc := [(h0, .inr (1, [.ref h1, .ref h2, .int (nI n), .int rd])), (h1, .inl (cB, 1024, .inl (wl_ti b))), (h2, .inl (cC, 1024, .inl (wl_ti w)))]) hD hS hA [0, 1, 2] rfl
        refine va_callv (va_runV (As := [.int (nI (192 + v / 64))]) (rest := []) ⟨hx, hb, hml, hown, hts⟩ (metX1_push l dC dI h0 h1 h2 cB cC _ n b rd w (192 + v / 64) (by omega)) (cwV 1 hts (lw_V q91 q93 qs0 q3 q94) rfl rfl rfl (by decide +kernel) ⟨Nat.le_of_ble_eq_true rfl, Nat.le_of_ble_eq_true rfl⟩) ⟨fun a U g mk q => by obtain ⟨q0, q1, qP, qK, qD⟩ := q; exact ⟨q0, q1, qP, va_K.moved (u := U) (U := U.calling g mk a) (Vm.Alike.refl U.vm) qK, qD⟩, va_recv hK hP (ci := 1) (q0 := 0) rfl rfl, fun U hU hW => ⟨rfl, by rw [hU], by rw [hU]; exact hP, va_K.moved hW.alike hK, hD.weaken (fun _ _ _ _ => trivial)⟩⟩ rfl rfl hl.1 rfl (lv_room (Nat.le_of_ble_eq_true rfl)) dX1_lay_100 ⟨Nat.le_of_ble_eq_true rfl, Nat.le_of_ble_eq_true rfl⟩) hS (fun q _ h => hFc q h) hFc (fun u t H1 locs ht hvm hw hB hz1 hk1 hS => ?_)
        subst hw
        obtain ⟨hP1, hD1⟩ := hB
        rw [ht] at hP1
        obtain ⟨hP, hD⟩ := va_join (wr := []) (w1 := [(h0, .inr (1, [.ref h1, .ref h2, .int (nI (n + 1)), .int rd])), (h1, .inl (cB, 1024, .inl (wl_ti (wl_up b n (192 + v / 64))))), (h2, .inl (cC, 1024, .inl (wl_ti w)))]) hP hD [0, 1, 2] [] rfl rfl (by decide) (by decide) hk1 hFc hP1 hD1
        generalize H1 = H at hP hS ⊢
        have hP : va_P (dC, dI) vwCl [(h0, .inr (1, [.ref h1, .ref h2, .int (nI (n + 1)), .int rd])), (h1, .inl (cB, 1024, .inl (wl_ti (wl_up b n (192 + v / 64))))), (h2, .inl (cC, 1024, .inl (wl_ti w)))] H := hP
        have hD : va_D A [(h0, .inr (1, [.ref h1, .ref h2, .int (nI (n + 1)), .int rd])), (h1, .inl (cB, 1024, .inl (wl_ti (wl_up b n (192 + v / 64))))), (h2, .inl (cC, 1024, .inl (wl_ti w)))] := hD
        refine lv_iload_n hx hb dX1_lay_103 rfl (lv_at hl 0 rfl) ?_
        refine lv_iconst (v := nI 1) hx hb dX1_lay_104 (by decide) ?_
        refine lv_isub hx hb dX1_lay_105 ?_
        refine lv_istore (lv' := [(4, .int (nI 1 - nI 1)), (3, .int (nI 1)), (2, .int (nI v)), (0, .ref h0), (1, .int p0)]) hx hb dX1_lay_106 hl (by decide) rfl (fun ls hl => ?_)
        exact x1_layloop (D := (wl_layN n v, wl_layB n b v)) hx hb hr hlocks hml hown hts hA hK hv 1 (n + 1) _ H locs (by decide) (by omega) (wl_push_1 (by omega) c1) hP hD hS ls (lv_sub hl [3, 2, 0] rfl)
    · refine lv_iconst (v := nI 0) hx hb dX1_lay_24 (by decide) ?_
      refine lv_goto (tgt := 50) hx hb dX1_lay_25 (by decide) ?_
      refine lv_istore_n (lv' := [(3, .int (nI 0)), (2, .int (nI v)), (0, .ref h0), (1, .int p0)]) hx hb dX1_lay_50 rfl hl (by decide) rfl (fun ls hl => ?_)
      refine lv_iload_n hx hb dX1_lay_51 rfl (lv_at hl 0 rfl) ?_
      refine wl_jz (u := 0) (tgt := 63) hx hb dX1_lay_52 (by decide) (by decide) (fun z => absurd rfl z) (fun _ => ?_)
      refine lv_aload_n hx hb dX1_lay_55 rfl (lv_at hl 2 rfl) ?_
      refine lv_iload_n hx hb dX1_lay_56 rfl (lv_at hl 1 rfl) ?_
      have hFc := va_free (wc := [(h0, .inr (1, [.ref h1, .ref h2, .int (nI n), .int rd])), (h1, .inl (cB, 1024, .inl (wl_ti b))), (h2, .inl (cC, 1024, .inl (wl_ti w)))]) hD hS hA [0, 1, 2] rfl
      refine va_callv (va_runV (As := [.int (nI v)]) (rest := []) ⟨hx, hb, hml, hown, hts⟩ (metX1_push l dC dI h0 h1 h2 cB cC _ n b rd w v (by omega)) (cwV 1 hts (lw_V q91 q93 qs0 q3 q94) rfl rfl rfl (by decide +kernel) ⟨Nat.le_of_ble_eq_true rfl, Nat.le_of_ble_eq_true rfl⟩) ⟨fun a U g mk q => by obtain ⟨q0, q1, qP, qK, qD⟩ := q; exact ⟨q0, q1, qP, va_K.moved (u := U) (U := U.calling g mk a) (Vm.Alike.refl U.vm) qK, qD⟩, va_recv hK hP (ci := 1) (q0 := 0) rfl rfl, fun U hU hW => ⟨rfl, by rw [hU], by rw [hU]; exact hP, va_K.moved hW.alike hK, hD.weaken (fun _ _ _ _ => trivial)⟩⟩ rfl rfl hl.1 rfl (lv_room (Nat.le_of_ble_eq_true rfl)) dX1_lay_57 ⟨Nat.le_of_ble_eq_true rfl, Nat.le_of_ble_eq_true rfl⟩) hS (fun q _ h => hFc q h) hFc (fun u t H1 locs ht hvm hw hB hz1 hk1 hS => ?_)
      subst hw
      obtain ⟨hP1, hD1⟩ := hB
      rw [ht] at hP1
      obtain ⟨hP, hD⟩ := va_join (wr := []) (w1 := [(h0, .inr (1, [.ref h1, .ref h2, .int (nI (n + 1)), .int rd])), (h1, .inl (cB, 1024, .inl (wl_ti (wl_up b n v)))), (h2, .inl (cC, 1024, .inl (wl_ti w)))]) hP hD [0, 1, 2] [] rfl rfl (by decide) (by decide) hk1 hFc hP1 hD1
      generalize H1 = H at hP hS ⊢
      have hP : va_P (dC, dI) vwCl [(h0, .inr (1, [.ref h1, .ref h2, .int (nI (n + 1)), .int rd])), (h1, .inl (cB, 1024, .inl (wl_ti (wl_up b n v)))), (h2, .inl (cC, 1024, .inl (wl_ti w)))] H := hP
      have hD : va_D A [(h0, .inr (1, [.ref h1, .ref h2, .int (nI (n + 1)), .int rd])), (h1, .inl (cB, 1024, .inl (wl_ti (wl_up b n v)))), (h2, .inl (cC, 1024, .inl (wl_ti w)))] := hD
      refine lv_goto (tgt := 137) hx hb dX1_lay_60 (by decide) ?_
      refine lv_aload_n hx hb dX1_lay_137 rfl (lv_at hl 2 rfl) ?_
      refine va_get (D := (dC, dI)) (ci := 1) (v := .int (nI (n + 1))) (C := RX1) (T := TX1) (N := 4) hx hb hts in_X1 hown hK hP 0 rfl rfl 2 (by decide) (hts _ q73) (fun _ h9 => h9) rfl dX1_lay_138 ?_
      have eN : wl_layN n v = n + 1 := if_pos c0
      have eB : wl_layB n b v = wl_up b n v := if_pos c0
      exact W.iret (v := nI (n + 1)) hx hb hr (fun t ht hW => ⟨⟨(nI (n + 1)), (n + 1, wl_up b n v, rd, w), rfl, by rw [eN, eB]; exact ⟨rfl, rfl⟩, by rw [ht]; exact hP, hD⟩, hS.F ht⟩) hS.2.2 dX1_lay_141
  · have el : wl_lay n b p0 = (-1, n, b) := if_pos q
    refine lv_iconst (v := (-1)) hx hb dX1_lay_10 (by decide) ?_
    exact W.iret (v := -1) hx hb hr (fun t ht hW => ⟨⟨(-1), (n, b, rd, w), rfl, ⟨by rw [el], by rw [el]⟩, by rw [ht]; exact hP, hD⟩, hS.F ht⟩) hS.2.2 dX1_lay_11
end
section
/-! WireLettersModel.read -/
set_option maxHeartbeats 4000000 in
set_option maxRecDepth 100000 in
/-- the reference's inner loop: k bytes are to come at f + i, the number is v -/
theorem x1_inner {p : Program} {l : Launch} {e : Env} {R : Room} {s : State} {m : MethodId} {args : Array Value} {below : List Frame} {meth : Method} {c : Code} {dC : Nat → ClassId} {dI : Nat → Nat → Nat} {A : Nat → Prop} {h0 h1 h2 : Nat} {cB cC : ClassId} {n : Nat} {b : Nat → Nat} {D : Int32 × (Nat → Nat)} {ee : Nat} (hx : p.tables.exec = Jvm.exec) (hb : c.code = cX1_read) (hr : meth.sig.returnType = some .int) (hlocks : meth.locks = false) (hml : c.maxLocals = 10) (hown : s.vm.findClass RX1 = some m.cls) (hts : ∀ w ∈ lw_all, w.before args s = true) (hA : ∀ q : Nat, s.heap.size ≤ q → A q) (hK : va_K (dC, dI) vwCl [(cB, .int), (cC, .int)] s) (hby : ∀ j, b j < 256) (he : ee ≤ 1024) {f j mm : Nat} {w : Nat → Nat} {H : Heap} {locs : List Loc} (hfm : f + mm < ee) (hP : va_P (dC, dI) vwCl [(h0, .inr (1, [.ref h1, .ref h2, .int (nI n), .int (nI j)])), (h1, .inl (cB, 1024, .inl (wl_ti b))), (h2, .inl (cC, 1024, .inl (wl_ti w)))] H) (hD : va_D A [(h0, .inr (1, [.ref h1, .ref h2, .int (nI n), .int (nI j)])), (h1, .inl (cB, 1024, .inl (wl_ti b))), (h2, .inl (cC, 1024, .inl (wl_ti w)))]) (hS : va_S A s.heap H locs) :
    ∀ (k i v : Nat), i + k = mm + 1 → (wl_cont b f k i v = none → D = (-1, w)) → (∀ (v2 : Nat) (ls : Array Slot), wl_cont b f k i v = some v2 → lv_has ls 10 [(0, .ref h0), (3, .int (nI f)), (4, .int (nI ee)), (6, .int (nI mm)), (7, .int (nI v2))] → W p l e R s m args below meth c H locs 0 0 (MQ below (va_Qi (fun (r : Int32) (u : wl_S) => r = D.1 ∧ u = (n, b, D.1, D.2)) (BX1 dC dI A h0 h1 h2 cB cC) A) args s 0 0 A) (F0 m 256 ls [])) → ∀ (ls : Array Slot), lv_has ls 10 [(0, .ref h0), (3, .int (nI f)), (4, .int (nI ee)), (6, .int (nI mm)), (7, .int (nI v)), (8, .int (nI i))] → W p l e R s m args below meth c H locs 0 0 (MQ below (va_Qi (fun (r : Int32) (u : wl_S) => r = D.1 ∧ u = (n, b, D.1, D.2)) (BX1 dC dI A h0 h1 h2 cB cC) A) args s 0 0 A) (F0 m 195 ls []) := by
  intro k
  induction k with
  | zero =>
    intro i v hik hN hG ls hl
    refine lv_iload hx hb dX1_read_195 (lv_at hl 5 rfl) ?_
    refine lv_iload hx hb dX1_read_197 (lv_at hl 3 rfl) ?_
    refine wl_jgt (u := i) (v := mm) (tgt := 256) hx hb dX1_read_199 (by decide) (by omega) (by omega) (fun _ => ?_) (fun z => absurd z (by omega))
    exact hG v ls rfl (lv_sub hl [0, 1, 2, 3, 4] rfl)
  | succ k ih =>
    intro i v hik hN hG ls hl
    refine lv_iload hx hb dX1_read_195 (lv_at hl 5 rfl) ?_
    refine lv_iload hx hb dX1_read_197 (lv_at hl 3 rfl) ?_
    refine wl_jgt (u := i) (v := mm) (tgt := 256) hx hb dX1_read_199 (by decide) (by omega) (by omega) (fun z => absurd z (by omega)) (fun _ => ?_)
    have hbi := hby (f + i)
    refine lv_aload_n hx hb dX1_read_202 rfl (lv_at hl 0 rfl) ?_
    refine va_get (D := (dC, dI)) (ci := 1) (v := .ref h1) (C := RX1) (T := TX1) (N := 4) hx hb hts in_X1 hown hK hP 0 rfl rfl 0 (by decide) (hts _ q71) (fun _ h9 => h9) rfl dX1_read_203 ?_
    refine lv_iload_n hx hb dX1_read_206 rfl (lv_at hl 1 rfl) ?_
    refine lv_iload hx hb dX1_read_207 (lv_at hl 5 rfl) ?_
    refine lv_iadd hx hb dX1_read_209 ?_
    refine wl_e (y := nI (f + i)) (nI_add f i) ?_
    refine va_iald hx hb hK hP 1 0 rfl rfl (vp_in_nI (by omega) (by decide)) dX1_read_210 ?_
    refine wl_e (y := nI (b (f + i))) (wl_tiA (by omega)) ?_
    refine lv_istore (lv' := [(9, .int (nI (b (f + i)))), (0, .ref h0), (3, .int (nI f)), (4, .int (nI ee)), (6, .int (nI mm)), (7, .int (nI v)), (8, .int (nI i))]) hx hb dX1_read_211 hl (by decide) rfl (fun ls hl => ?_)
    refine lv_iload hx hb dX1_read_213 (lv_at hl 0 rfl) ?_
    refine lv_sipush (v := nI 128) hx hb dX1_read_215 (by decide) ?_
    refine wl_jlt (u := b (f + i)) (v := 128) (tgt := 229) hx hb dX1_read_218 (by decide) (by omega) (by omega) (fun c0 => ?_) (fun c0 => ?_)
    · refine lv_aload_n hx hb dX1_read_229 rfl (lv_at hl 1 rfl) ?_
      refine lv_iconst (v := (-1)) hx hb dX1_read_230 (by decide) ?_
      refine va_put (D := (dC, dI)) (ci := 1) (v := .int (-1)) (ty := .int) (C := RX1) (T := TX1) (N := 4) hx hb hts in_X1 tyX1 tyX1_ok nmX1 hown hK hP hD hS 0 rfl rfl 3 (by decide) (hts _ q74) (fun _ h9 => h9) rfl (by decide +kernel) rfl rfl (Nat.le_of_ble_eq_true rfl) dX1_read_231 (fun H locs hP hD hS => ?_)
      have hP : va_P (dC, dI) vwCl [(h0, .inr (1, [.ref h1, .ref h2, .int (nI n), .int (-1)])), (h1, .inl (cB, 1024, .inl (wl_ti b))), (h2, .inl (cC, 1024, .inl (wl_ti w)))] H := hP
      have hD : va_D A [(h0, .inr (1, [.ref h1, .ref h2, .int (nI n), .int (-1)])), (h1, .inl (cB, 1024, .inl (wl_ti b))), (h2, .inl (cC, 1024, .inl (wl_ti w)))] := hD
      refine lv_iconst (v := (-1)) hx hb dX1_read_234 (by decide) ?_
      have hE : D = (-1, w) := hN (if_pos (Or.inl c0))
      exact W.iret (v := -1) hx hb hr (fun t ht hW => ⟨⟨(-1), (n, b, -1, w), rfl, by rw [hE]; exact ⟨rfl, rfl⟩, by rw [ht]; exact hP, hD⟩, hS.F ht⟩) hS.2.2 dX1_read_235
    · refine lv_iload hx hb dX1_read_221 (lv_at hl 0 rfl) ?_
      refine lv_sipush (v := nI 191) hx hb dX1_read_223 (by decide) ?_
      refine wl_jle (u := b (f + i)) (v := 191) (tgt := 236) hx hb dX1_read_226 (by decide) (by omega) (by omega) (fun c1 => ?_) (fun c1 => ?_)
      · have ec : wl_cont b f (k + 1) i v = wl_cont b f k (i + 1) (v * 64 + b (f + i) - 128) := if_neg (by omega)
        refine lv_iload hx hb dX1_read_236 (lv_at hl 5 rfl) ?_
        refine lv_bipush (v := nI 64) hx hb dX1_read_238 (by decide) ?_
        refine lv_imul hx hb dX1_read_240 ?_
        refine wl_e (y := nI (v * 64)) (pk_mul v 64) ?_
        refine lv_iload hx hb dX1_read_241 (lv_at hl 0 rfl) ?_
        refine lv_iadd hx hb dX1_read_243 ?_
        refine wl_e (y := nI (v * 64 + b (f + i))) (nI_add _ _) ?_
        refine lv_sipush (v := nI 128) hx hb dX1_read_244 (by decide) ?_
        refine lv_isub hx hb dX1_read_247 ?_
        refine wl_e (y := nI (v * 64 + b (f + i) - 128)) (pk_sub (by omega)) ?_
        refine lv_istore (lv' := [(7, .int (nI (v * 64 + b (f + i) - 128))), (9, .int (nI (b (f + i)))), (0, .ref h0), (3, .int (nI f)), (4, .int (nI ee)), (6, .int (nI mm)), (8, .int (nI i))]) hx hb dX1_read_248 hl (by decide) rfl (fun ls hl => ?_)
        refine lv_iinc (v := nI (i + 1)) (lv' := [(8, .int (nI (i + 1))), (7, .int (nI (v * 64 + b (f + i) - 128))), (9, .int (nI (b (f + i)))), (0, .ref h0), (3, .int (nI f)), (4, .int (nI ee)), (6, .int (nI mm))]) hx hb dX1_read_250 hl (k := 6) rfl (nI_1 i) (by decide) rfl (fun ls hl => ?_)
        refine lv_goto (tgt := 195) hx hb dX1_read_253 (by decide) ?_
        exact ih (i + 1) (v * 64 + b (f + i) - 128) (by omega) (fun z => hN (ec.trans z)) (fun v2 ls z hl => hG v2 ls (ec.trans z) hl) ls (lv_sub hl [3, 4, 5, 6, 1, 0] rfl)
      · refine lv_aload_n hx hb dX1_read_229 rfl (lv_at hl 1 rfl) ?_
        refine lv_iconst (v := (-1)) hx hb dX1_read_230 (by decide) ?_
        refine va_put (D := (dC, dI)) (ci := 1) (v := .int (-1)) (ty := .int) (C := RX1) (T := TX1) (N := 4) hx hb hts in_X1 tyX1 tyX1_ok nmX1 hown hK hP hD hS 0 rfl rfl 3 (by decide) (hts _ q74) (fun _ h9 => h9) rfl (by decide +kernel) rfl rfl (Nat.le_of_ble_eq_true rfl) dX1_read_231 (fun H locs hP hD hS => ?_)
        have hP : va_P (dC, dI) vwCl [(h0, .inr (1, [.ref h1, .ref h2, .int (nI n), .int (-1)])), (h1, .inl (cB, 1024, .inl (wl_ti b))), (h2, .inl (cC, 1024, .inl (wl_ti w)))] H := hP
        have hD : va_D A [(h0, .inr (1, [.ref h1, .ref h2, .int (nI n), .int (-1)])), (h1, .inl (cB, 1024, .inl (wl_ti b))), (h2, .inl (cC, 1024, .inl (wl_ti w)))] := hD
        refine lv_iconst (v := (-1)) hx hb dX1_read_234 (by decide) ?_
        have hE : D = (-1, w) := hN (if_pos (Or.inr c1))
        exact W.iret (v := -1) hx hb hr (fun t ht hW => ⟨⟨(-1), (n, b, -1, w), rfl, by rw [hE]; exact ⟨rfl, rfl⟩, by rw [ht]; exact hP, hD⟩, hS.F ht⟩) hS.2.2 dX1_read_235
set_option maxHeartbeats 4000000 in
set_option maxRecDepth 100000 in
/-- the reference's outer loop: j letters are written, the next byte is f -/
theorem x1_outer {p : Program} {l : Launch} {e : Env} {R : Room} {s : State} {m : MethodId} {args : Array Value} {below : List Frame} {meth : Method} {c : Code} {dC : Nat → ClassId} {dI : Nat → Nat → Nat} {A : Nat → Prop} {h0 h1 h2 : Nat} {cB cC : ClassId} {n : Nat} {b : Nat → Nat} {D : Int32 × (Nat → Nat)} {ee : Nat} (hx : p.tables.exec = Jvm.exec) (hb : c.code = cX1_read) (hr : meth.sig.returnType = some .int) (hlocks : meth.locks = false) (hml : c.maxLocals = 10) (hown : s.vm.findClass RX1 = some m.cls) (hts : ∀ w ∈ lw_all, w.before args s = true) (hA : ∀ q : Nat, s.heap.size ≤ q → A q) (hK : va_K (dC, dI) vwCl [(cB, .int), (cC, .int)] s) (hby : ∀ j, b j < 256) (he : ee ≤ 1024) :
    ∀ (k f j : Nat) (w : Nat → Nat) (H : Heap) (locs : List Loc), ee < f + k → j ≤ f → f ≤ ee → D = wl_dec b ee k f j w → va_P (dC, dI) vwCl [(h0, .inr (1, [.ref h1, .ref h2, .int (nI n), .int (nI j)])), (h1, .inl (cB, 1024, .inl (wl_ti b))), (h2, .inl (cC, 1024, .inl (wl_ti w)))] H → va_D A [(h0, .inr (1, [.ref h1, .ref h2, .int (nI n), .int (nI j)])), (h1, .inl (cB, 1024, .inl (wl_ti b))), (h2, .inl (cC, 1024, .inl (wl_ti w)))] → va_S A s.heap H locs → ∀ (ls : Array Slot), lv_has ls 10 [(0, .ref h0), (3, .int (nI f)), (4, .int (nI ee))] → W p l e R s m args below meth c H locs 0 0 (MQ below (va_Qi (fun (r : Int32) (u : wl_S) => r = D.1 ∧ u = (n, b, D.1, D.2)) (BX1 dC dI A h0 h1 h2 cB cC) A) args s 0 0 A) (F0 m 34 ls []) := by
  intro k
  induction k with
  | zero =>
    intro f j w H locs h1 h2 h3
    exact absurd h1 (by omega)
  | succ k ih =>
    intro f j w H locs hfk hjf hfe hDd hP hD hS ls hl
    refine lv_iload_n hx hb dX1_read_34 rfl (lv_at hl 1 rfl) ?_
    refine lv_iload hx hb dX1_read_35 (lv_at hl 2 rfl) ?_
    refine wl_jge (u := f) (v := ee) (tgt := 404) hx hb dX1_read_37 (by decide) (by omega) (by omega) (fun q => ?_) (fun q => ?_)
    · refine lv_aload_n hx hb dX1_read_404 rfl (lv_at hl 0 rfl) ?_
      refine va_get (D := (dC, dI)) (ci := 1) (v := .int (nI j)) (C := RX1) (T := TX1) (N := 4) hx hb hts in_X1 hown hK hP 0 rfl rfl 3 (by decide) (hts _ q74) (fun _ h9 => h9) rfl dX1_read_405 ?_
      have hE : D = (nI j, w) := hDd.trans (wl_dec_done q)
      exact W.iret (v := nI j) hx hb hr (fun t ht hW => ⟨⟨(nI j), (n, b, nI j, w), rfl, by rw [hE]; exact ⟨rfl, rfl⟩, by rw [ht]; exact hP, hD⟩, hS.F ht⟩) hS.2.2 dX1_read_408
    · have hbf := hby f
      have hnone : wl_step b f ee = none → D = (-1, w) := fun z => hDd.trans (wl_dec_none q z)
      have h311 : ∀ (mm v : Nat) (ls : Array Slot), mm ≤ 3 → wl_step b f ee = some (mm, v) → v < 2097152 → (mm ≠ 3 → v < 65536) → (mm = 3 → 65536 ≤ v) → lv_has ls 10 [(0, .ref h0), (3, .int (nI f)), (4, .int (nI ee)), (6, .int (nI mm)), (7, .int (nI v))] → W p l e R s m args below meth c H locs 0 0 (MQ below (va_Qi (fun (r : Int32) (u : wl_S) => r = D.1 ∧ u = (n, b, D.1, D.2)) (BX1 dC dI A h0 h1 h2 cB cC) A) args s 0 0 A) (F0 m 311 ls []) := by
        intro mm v ls hm3 hstep hv hv3 hv4 hl
        have hsm := wl_step_some hstep
        refine lv_iload hx hb dX1_read_311 (lv_at hl 3 rfl) ?_
        refine lv_iconst (v := nI 3) hx hb dX1_read_313 (by decide) ?_
        refine wl_jne (u := mm) (v := 3) (tgt := 373) hx hb dX1_read_314 (by decide) (by omega) (by omega) (fun c => ?_) (fun c => ?_)
        · refine lv_aload_n hx hb dX1_read_373 rfl (lv_at hl 0 rfl) ?_
          refine va_get (D := (dC, dI)) (ci := 1) (v := .ref h2) (C := RX1) (T := TX1) (N := 4) hx hb hts in_X1 hown hK hP 0 rfl rfl 1 (by decide) (hts _ q72) (fun _ h9 => h9) rfl dX1_read_374 ?_
          refine lv_aload_n hx hb dX1_read_377 rfl (lv_at hl 0 rfl) ?_
          refine va_get (D := (dC, dI)) (ci := 1) (v := .int (nI j)) (C := RX1) (T := TX1) (N := 4) hx hb hts in_X1 hown hK hP 0 rfl rfl 3 (by decide) (hts _ q74) (fun _ h9 => h9) rfl dX1_read_378 ?_
          refine lv_iload hx hb dX1_read_381 (lv_at hl 4 rfl) ?_
          refine wl_iast (F := wl_ti (wl_up w j v)) hx hb hK hP hD hS 2 1 rfl rfl (vp_in_nI (by omega) (by decide)) dX1_read_383 (wl_upI (nI_clamp (by omega)) rfl) (fun H locs hP hD hS => ?_)
          have hP : va_P (dC, dI) vwCl [(h0, .inr (1, [.ref h1, .ref h2, .int (nI n), .int (nI j)])), (h1, .inl (cB, 1024, .inl (wl_ti b))), (h2, .inl (cC, 1024, .inl (wl_ti (wl_up w j v))))] H := hP
          have hD : va_D A [(h0, .inr (1, [.ref h1, .ref h2, .int (nI n), .int (nI j)])), (h1, .inl (cB, 1024, .inl (wl_ti b))), (h2, .inl (cC, 1024, .inl (wl_ti (wl_up w j v))))] := hD
          refine lv_aload_n hx hb dX1_read_384 rfl (lv_at hl 0 rfl) ?_
          refine lv_aload_n hx hb dX1_read_385 rfl (lv_at hl 0 rfl) ?_
          refine va_get (D := (dC, dI)) (ci := 1) (v := .int (nI j)) (C := RX1) (T := TX1) (N := 4) hx hb hts in_X1 hown hK hP 0 rfl rfl 3 (by decide) (hts _ q74) (fun _ h9 => h9) rfl dX1_read_386 ?_
          refine lv_iconst (v := nI 1) hx hb dX1_read_389 (by decide) ?_
          refine lv_iadd hx hb dX1_read_390 ?_
          refine wl_e (y := nI (j + 1)) (nI_add j 1) ?_
          refine va_put (D := (dC, dI)) (ci := 1) (v := .int (nI (j + 1))) (ty := .int) (C := RX1) (T := TX1) (N := 4) hx hb hts in_X1 tyX1 tyX1_ok nmX1 hown hK hP hD hS 0 rfl rfl 3 (by decide) (hts _ q74) (fun _ h9 => h9) rfl (by decide +kernel) rfl rfl (Nat.le_of_ble_eq_true rfl) dX1_read_391 (fun H locs hP hD hS => ?_)
          have hP : va_P (dC, dI) vwCl [(h0, .inr (1, [.ref h1, .ref h2, .int (nI n), .int (nI (j + 1))])), (h1, .inl (cB, 1024, .inl (wl_ti b))), (h2, .inl (cC, 1024, .inl (wl_ti (wl_up w j v))))] H := hP
          have hD : va_D A [(h0, .inr (1, [.ref h1, .ref h2, .int (nI n), .int (nI (j + 1))])), (h1, .inl (cB, 1024, .inl (wl_ti b))), (h2, .inl (cC, 1024, .inl (wl_ti (wl_up w j v))))] := hD
          refine lv_iload_n hx hb dX1_read_394 rfl (lv_at hl 1 rfl) ?_
          refine lv_iload hx hb dX1_read_395 (lv_at hl 3 rfl) ?_
          refine lv_iadd hx hb dX1_read_397 ?_
          refine wl_e (y := nI (f + mm)) (nI_add f mm) ?_
          refine lv_iconst (v := nI 1) hx hb dX1_read_398 (by decide) ?_
          refine lv_iadd hx hb dX1_read_399 ?_
          refine wl_e (y := nI (f + mm + 1)) (nI_add (f + mm) 1) ?_
          refine lv_istore_n (lv' := [(3, .int (nI (f + mm + 1))), (0, .ref h0), (4, .int (nI ee)), (6, .int (nI mm)), (7, .int (nI v))]) hx hb dX1_read_400 rfl hl (by decide) rfl (fun ls hl => ?_)
          refine lv_goto (tgt := 34) hx hb dX1_read_401 (by decide) ?_
          exact ih (f + mm + 1) (j + 1) _ H locs (by omega) (by omega) (by omega) (hDd.trans (wl_dec_n q hstep c)) hP hD hS ls (lv_sub hl [1, 0, 2] rfl)
        · subst c
          have hv5 := hv4 rfl
          refine lv_aload_n hx hb dX1_read_317 rfl (lv_at hl 0 rfl) ?_
          refine va_get (D := (dC, dI)) (ci := 1) (v := .ref h2) (C := RX1) (T := TX1) (N := 4) hx hb hts in_X1 hown hK hP 0 rfl rfl 1 (by decide) (hts _ q72) (fun _ h9 => h9) rfl dX1_read_318 ?_
          refine lv_aload_n hx hb dX1_read_321 rfl (lv_at hl 0 rfl) ?_
          refine va_get (D := (dC, dI)) (ci := 1) (v := .int (nI j)) (C := RX1) (T := TX1) (N := 4) hx hb hts in_X1 hown hK hP 0 rfl rfl 3 (by decide) (hts _ q74) (fun _ h9 => h9) rfl dX1_read_322 ?_
          refine lv_ldc hx hb hown (hts _ q112) dX1_read_325 ?_
          refine wl_e (y := nI 55296) (rfl) ?_
          refine lv_iload hx hb dX1_read_327 (lv_at hl 4 rfl) ?_
          refine lv_ldc hx hb hown (hts _ q90) dX1_read_329 ?_
          refine wl_e (y := nI 65536) (rfl) ?_
          refine lv_isub hx hb dX1_read_331 ?_
          refine wl_e (y := nI (v - 65536)) (pk_sub hv5) ?_
          refine lv_bipush (v := nI 10) hx hb dX1_read_332 (by decide) ?_
          refine lv_ishr hx hb dX1_read_334 ?_
          refine wl_e (y := nI ((v - 65536) / 1024)) (wl_shr (k := 10) (by omega) (by decide)) ?_
          refine lv_iadd hx hb dX1_read_335 ?_
          refine wl_e (y := nI (55296 + (v - 65536) / 1024)) (nI_add _ _) ?_
          refine wl_iast (F := wl_ti (wl_up w j (55296 + (v - 65536) / 1024))) hx hb hK hP hD hS 2 1 rfl rfl (vp_in_nI (by omega) (by decide)) dX1_read_336 (wl_upI (nI_clamp (by omega)) rfl) (fun H locs hP hD hS => ?_)
          have hP : va_P (dC, dI) vwCl [(h0, .inr (1, [.ref h1, .ref h2, .int (nI n), .int (nI j)])), (h1, .inl (cB, 1024, .inl (wl_ti b))), (h2, .inl (cC, 1024, .inl (wl_ti (wl_up w j (55296 + (v - 65536) / 1024)))))] H := hP
          have hD : va_D A [(h0, .inr (1, [.ref h1, .ref h2, .int (nI n), .int (nI j)])), (h1, .inl (cB, 1024, .inl (wl_ti b))), (h2, .inl (cC, 1024, .inl (wl_ti (wl_up w j (55296 + (v - 65536) / 1024)))))] := hD
          refine lv_aload_n hx hb dX1_read_337 rfl (lv_at hl 0 rfl) ?_
          refine va_get (D := (dC, dI)) (ci := 1) (v := .ref h2) (C := RX1) (T := TX1) (N := 4) hx hb hts in_X1 hown hK hP 0 rfl rfl 1 (by decide) (hts _ q72) (fun _ h9 => h9) rfl dX1_read_338 ?_
          refine lv_aload_n hx hb dX1_read_341 rfl (lv_at hl 0 rfl) ?_
          refine va_get (D := (dC, dI)) (ci := 1) (v := .int (nI j)) (C := RX1) (T := TX1) (N := 4) hx hb hts in_X1 hown hK hP 0 rfl rfl 3 (by decide) (hts _ q74) (fun _ h9 => h9) rfl dX1_read_342 ?_
          refine lv_iconst (v := nI 1) hx hb dX1_read_345 (by decide) ?_
          refine lv_iadd hx hb dX1_read_346 ?_
          refine wl_e (y := nI (j + 1)) (nI_add j 1) ?_
          refine lv_ldc hx hb hown (hts _ q115) dX1_read_347 ?_
          refine wl_e (y := nI 56320) (rfl) ?_
          refine lv_iload hx hb dX1_read_349 (lv_at hl 4 rfl) ?_
          refine lv_ldc hx hb hown (hts _ q90) dX1_read_351 ?_
          refine wl_e (y := nI 65536) (rfl) ?_
          refine lv_isub hx hb dX1_read_353 ?_
          refine wl_e (y := nI (v - 65536)) (pk_sub hv5) ?_
          refine lv_sipush (v := nI 1023) hx hb dX1_read_354 (by decide) ?_
          refine lv_iand hx hb dX1_read_357 ?_
          refine wl_e (y := nI (v % 1024)) ((pk_andN (by omega) 10 (by decide)).trans (congrArg nI (by omega))) ?_
          refine lv_iadd hx hb dX1_read_358 ?_
          refine wl_e (y := nI (56320 + v % 1024)) (nI_add _ _) ?_
          refine wl_iast (F := wl_ti (wl_up (wl_up w j (55296 + (v - 65536) / 1024)) (j + 1) (56320 + v % 1024))) hx hb hK hP hD hS 2 1 rfl rfl (vp_in_nI (by omega) (by decide)) dX1_read_359 (wl_upI (nI_clamp (by omega)) rfl) (fun H locs hP hD hS => ?_)
          have hP : va_P (dC, dI) vwCl [(h0, .inr (1, [.ref h1, .ref h2, .int (nI n), .int (nI j)])), (h1, .inl (cB, 1024, .inl (wl_ti b))), (h2, .inl (cC, 1024, .inl (wl_ti (wl_up (wl_up w j (55296 + (v - 65536) / 1024)) (j + 1) (56320 + v % 1024)))))] H := hP
          have hD : va_D A [(h0, .inr (1, [.ref h1, .ref h2, .int (nI n), .int (nI j)])), (h1, .inl (cB, 1024, .inl (wl_ti b))), (h2, .inl (cC, 1024, .inl (wl_ti (wl_up (wl_up w j (55296 + (v - 65536) / 1024)) (j + 1) (56320 + v % 1024)))))] := hD
          refine lv_aload_n hx hb dX1_read_360 rfl (lv_at hl 0 rfl) ?_
          refine lv_aload_n hx hb dX1_read_361 rfl (lv_at hl 0 rfl) ?_
          refine va_get (D := (dC, dI)) (ci := 1) (v := .int (nI j)) (C := RX1) (T := TX1) (N := 4) hx hb hts in_X1 hown hK hP 0 rfl rfl 3 (by decide) (hts _ q74) (fun _ h9 => h9) rfl dX1_read_362 ?_
          refine lv_iconst (v := nI 2) hx hb dX1_read_365 (by decide) ?_
          refine lv_iadd hx hb dX1_read_366 ?_
          refine wl_e (y := nI (j + 2)) (nI_add j 2) ?_
          refine va_put (D := (dC, dI)) (ci := 1) (v := .int (nI (j + 2))) (ty := .int) (C := RX1) (T := TX1) (N := 4) hx hb hts in_X1 tyX1 tyX1_ok nmX1 hown hK hP hD hS 0 rfl rfl 3 (by decide) (hts _ q74) (fun _ h9 => h9) rfl (by decide +kernel) rfl rfl (Nat.le_of_ble_eq_true rfl) dX1_read_367 (fun H locs hP hD hS => ?_)
          have hP : va_P (dC, dI) vwCl [(h0, .inr (1, [.ref h1, .ref h2, .int (nI n), .int (nI (j + 2))])), (h1, .inl (cB, 1024, .inl (wl_ti b))), (h2, .inl (cC, 1024, .inl (wl_ti (wl_up (wl_up w j (55296 + (v - 65536) / 1024)) (j + 1) (56320 + v % 1024)))))] H := hP
          have hD : va_D A [(h0, .inr (1, [.ref h1, .ref h2, .int (nI n), .int (nI (j + 2))])), (h1, .inl (cB, 1024, .inl (wl_ti b))), (h2, .inl (cC, 1024, .inl (wl_ti (wl_up (wl_up w j (55296 + (v - 65536) / 1024)) (j + 1) (56320 + v % 1024)))))] := hD
          refine lv_goto (tgt := 394) hx hb dX1_read_370 (by decide) ?_
          refine lv_iload_n hx hb dX1_read_394 rfl (lv_at hl 1 rfl) ?_
          refine lv_iload hx hb dX1_read_395 (lv_at hl 3 rfl) ?_
          refine lv_iadd hx hb dX1_read_397 ?_
          refine wl_e (y := nI (f + 3)) (nI_add f 3) ?_
          refine lv_iconst (v := nI 1) hx hb dX1_read_398 (by decide) ?_
          refine lv_iadd hx hb dX1_read_399 ?_
          refine wl_e (y := nI (f + 4)) (nI_add (f + 3) 1) ?_
          refine lv_istore_n (lv' := [(3, .int (nI (f + 4))), (0, .ref h0), (4, .int (nI ee)), (6, .int (nI 3)), (7, .int (nI v))]) hx hb dX1_read_400 rfl hl (by decide) rfl (fun ls hl => ?_)
          refine lv_goto (tgt := 34) hx hb dX1_read_401 (by decide) ?_
          exact ih (f + 4) (j + 2) _ H locs (by omega) (by omega) (by omega) (hDd.trans (wl_dec_3 q hstep)) hP hD hS ls (lv_sub hl [1, 0, 2] rfl)
      have h304 : ∀ (mm v : Nat) (ls : Array Slot), wl_step b f ee = none → lv_has ls 10 [(0, .ref h0), (3, .int (nI f)), (4, .int (nI ee)), (6, .int (nI mm)), (7, .int (nI v))] → W p l e R s m args below meth c H locs 0 0 (MQ below (va_Qi (fun (r : Int32) (u : wl_S) => r = D.1 ∧ u = (n, b, D.1, D.2)) (BX1 dC dI A h0 h1 h2 cB cC) A) args s 0 0 A) (F0 m 304 ls []) := by
        intro mm v ls hstep hl
        refine lv_aload_n hx hb dX1_read_304 rfl (lv_at hl 0 rfl) ?_
        refine lv_iconst (v := (-1)) hx hb dX1_read_305 (by decide) ?_
        refine va_put (D := (dC, dI)) (ci := 1) (v := .int (-1)) (ty := .int) (C := RX1) (T := TX1) (N := 4) hx hb hts in_X1 tyX1 tyX1_ok nmX1 hown hK hP hD hS 0 rfl rfl 3 (by decide) (hts _ q74) (fun _ h9 => h9) rfl (by decide +kernel) rfl rfl (Nat.le_of_ble_eq_true rfl) dX1_read_306 (fun H locs hP hD hS => ?_)
        have hP : va_P (dC, dI) vwCl [(h0, .inr (1, [.ref h1, .ref h2, .int (nI n), .int (-1)])), (h1, .inl (cB, 1024, .inl (wl_ti b))), (h2, .inl (cC, 1024, .inl (wl_ti w)))] H := hP
        have hD : va_D A [(h0, .inr (1, [.ref h1, .ref h2, .int (nI n), .int (-1)])), (h1, .inl (cB, 1024, .inl (wl_ti b))), (h2, .inl (cC, 1024, .inl (wl_ti w)))] := hD
        refine lv_iconst (v := (-1)) hx hb dX1_read_309 (by decide) ?_
        have hE : D = (-1, w) := hnone hstep
        exact W.iret (v := -1) hx hb hr (fun t ht hW => ⟨⟨(-1), (n, b, -1, w), rfl, by rw [hE]; exact ⟨rfl, rfl⟩, by rw [ht]; exact hP, hD⟩, hS.F ht⟩) hS.2.2 dX1_read_310
      have h284 : ∀ (mm v : Nat) (ls : Array Slot), wl_more (b f) = mm → mm ≤ 3 → f + mm < ee → wl_cont b f mm 1 (wl_start (b f) mm) = some v → v < 2097152 → (mm ≠ 3 → v < 65536) → (mm = 2 → ¬ (v < 2048 ∨ (55296 ≤ v ∧ v < 57344))) → lv_has ls 10 [(0, .ref h0), (3, .int (nI f)), (4, .int (nI ee)), (6, .int (nI mm)), (7, .int (nI v))] → W p l e R s m args below meth c H locs 0 0 (MQ below (va_Qi (fun (r : Int32) (u : wl_S) => r = D.1 ∧ u = (n, b, D.1, D.2)) (BX1 dC dI A h0 h1 h2 cB cC) A) args s 0 0 A) (F0 m 284 ls []) := by
        intro mm v ls em hm3 hfm hc hv hv3 hn2 hl
        subst em
        have hok : ¬ wl_bad (wl_more (b f)) v → wl_step b f ee = some (wl_more (b f), v) := fun z => wl_step_ok (by omega) hfm hc z
        have hbad : wl_bad (wl_more (b f)) v → wl_step b f ee = none := fun z => wl_step_bad hc z
        generalize wl_more (b f) = mm at hm3 hfm hc hv3 hn2 hl hok hbad
        refine lv_iload hx hb dX1_read_284 (lv_at hl 3 rfl) ?_
        refine lv_iconst (v := nI 3) hx hb dX1_read_286 (by decide) ?_
        refine wl_jne (u := mm) (v := 3) (tgt := 311) hx hb dX1_read_287 (by decide) (by omega) (by omega) (fun c => ?_) (fun c => ?_)
        · exact h311 mm v ls hm3 (hok (by omega)) hv hv3 (fun z => absurd z c) (lv_sub hl [0, 1, 2, 3, 4] rfl)
        · refine lv_iload hx hb dX1_read_290 (lv_at hl 4 rfl) ?_
          refine lv_ldc hx hb hown (hts _ q90) dX1_read_292 ?_
          refine wl_e (y := nI 65536) (rfl) ?_
          refine wl_jlt (u := v) (v := 65536) (tgt := 304) hx hb dX1_read_294 (by decide) (by omega) (by omega) (fun c2 => ?_) (fun c2 => ?_)
          · exact h304 mm v ls (hbad (by omega)) (lv_sub hl [0, 1, 2, 3, 4] rfl)
          · refine lv_iload hx hb dX1_read_297 (lv_at hl 4 rfl) ?_
            refine lv_ldc hx hb hown (hts _ q114) dX1_read_299 ?_
            refine wl_e (y := nI 1114111) (rfl) ?_
            refine wl_jle (u := v) (v := 1114111) (tgt := 311) hx hb dX1_read_301 (by decide) (by omega) (by omega) (fun c3 => ?_) (fun c3 => ?_)
            · exact h311 mm v ls hm3 (hok (by omega)) hv hv3 (fun _ => c2) (lv_sub hl [0, 1, 2, 3, 4] rfl)
            · exact h304 mm v ls (hbad (by omega)) (lv_sub hl [0, 1, 2, 3, 4] rfl)
      have h256 : ∀ (mm v : Nat) (ls : Array Slot), wl_more (b f) = mm → mm ≤ 3 → f + mm < ee → wl_cont b f mm 1 (wl_start (b f) mm) = some v → lv_has ls 10 [(0, .ref h0), (3, .int (nI f)), (4, .int (nI ee)), (6, .int (nI mm)), (7, .int (nI v))] → W p l e R s m args below meth c H locs 0 0 (MQ below (va_Qi (fun (r : Int32) (u : wl_S) => r = D.1 ∧ u = (n, b, D.1, D.2)) (BX1 dC dI A h0 h1 h2 cB cC) A) args s 0 0 A) (F0 m 256 ls []) := by
        intro mm v ls em hm3 hfm hc hl
        obtain ⟨hv, hv3⟩ : v < 2097152 ∧ (mm ≠ 3 → v < 65536) := by
          rw [← em] at hc ⊢
          exact wl_cont_lt hby (by omega) hc
        have hbad2 : wl_bad mm v → wl_step b f ee = none := fun z => by
          rw [← em] at hc z
          exact wl_step_bad hc z
        refine lv_iload hx hb dX1_read_256 (lv_at hl 3 rfl) ?_
        refine lv_iconst (v := nI 2) hx hb dX1_read_258 (by decide) ?_
        refine wl_jne (u := mm) (v := 2) (tgt := 284) hx hb dX1_read_259 (by decide) (by omega) (by omega) (fun c => ?_) (fun c => ?_)
        · exact h284 mm v ls em hm3 hfm hc hv hv3 (fun z => absurd z c) (lv_sub hl [0, 1, 2, 3, 4] rfl)
        · refine lv_iload hx hb dX1_read_262 (lv_at hl 4 rfl) ?_
          refine lv_sipush (v := nI 2048) hx hb dX1_read_264 (by decide) ?_
          refine wl_jlt (u := v) (v := 2048) (tgt := 304) hx hb dX1_read_267 (by decide) (by omega) (by omega) (fun c2 => ?_) (fun c2 => ?_)
          · exact h304 mm v ls (hbad2 (by omega)) (lv_sub hl [0, 1, 2, 3, 4] rfl)
          · refine lv_iload hx hb dX1_read_270 (lv_at hl 4 rfl) ?_
            refine lv_ldc hx hb hown (hts _ q112) dX1_read_272 ?_
            refine wl_e (y := nI 55296) (rfl) ?_
            refine wl_jlt (u := v) (v := 55296) (tgt := 284) hx hb dX1_read_274 (by decide) (by omega) (by omega) (fun c3 => ?_) (fun c3 => ?_)
            · exact h284 mm v ls em hm3 hfm hc hv hv3 (fun _ => by omega) (lv_sub hl [0, 1, 2, 3, 4] rfl)
            · refine lv_iload hx hb dX1_read_277 (lv_at hl 4 rfl) ?_
              refine lv_ldc hx hb hown (hts _ q113) dX1_read_279 ?_
              refine wl_e (y := nI 57344) (rfl) ?_
              refine wl_jlt (u := v) (v := 57344) (tgt := 304) hx hb dX1_read_281 (by decide) (by omega) (by omega) (fun c4 => ?_) (fun c4 => ?_)
              · exact h304 mm v ls (hbad2 (by omega)) (lv_sub hl [0, 1, 2, 3, 4] rfl)
              · exact h284 mm v ls em hm3 hfm hc hv hv3 (fun _ => by omega) (lv_sub hl [0, 1, 2, 3, 4] rfl)
      have h190 : ∀ (mm : Nat) (ls : Array Slot), wl_more (b f) = mm → mm ≤ 3 → f + mm < ee → lv_has ls 10 [(0, .ref h0), (3, .int (nI f)), (4, .int (nI ee)), (6, .int (nI mm))] → W p l e R s m args below meth c H locs 0 0 (MQ below (va_Qi (fun (r : Int32) (u : wl_S) => r = D.1 ∧ u = (n, b, D.1, D.2)) (BX1 dC dI A h0 h1 h2 cB cC) A) args s 0 0 A) (F0 m 190 ls [.int (nI (wl_start (b f) mm))]) := by
        intro mm ls em hm3 hfm hl
        refine lv_istore (lv' := [(7, .int (nI (wl_start (b f) mm))), (0, .ref h0), (3, .int (nI f)), (4, .int (nI ee)), (6, .int (nI mm))]) hx hb dX1_read_190 hl (by decide) rfl (fun ls hl => ?_)
        refine lv_iconst (v := nI 1) hx hb dX1_read_192 (by decide) ?_
        refine lv_istore (lv' := [(8, .int (nI 1)), (7, .int (nI (wl_start (b f) mm))), (0, .ref h0), (3, .int (nI f)), (4, .int (nI ee)), (6, .int (nI mm))]) hx hb dX1_read_193 hl (by decide) rfl (fun ls hl => ?_)
        refine x1_inner hx hb hr hlocks hml hown hts hA hK hby he hfm hP hD hS mm 1 (wl_start (b f) mm) (by omega) (fun z => hnone (wl_step_cont (by rw [em]; exact z))) (fun v2 ls z hl => h256 mm v2 ls em hm3 hfm z hl) ls (lv_sub hl [2, 3, 4, 5, 1, 0] rfl)
      have h137 : ∀ (ls : Array Slot), wl_step b f ee = none → lv_has ls 10 [(0, .ref h0), (3, .int (nI f)), (4, .int (nI ee))] → W p l e R s m args below meth c H locs 0 0 (MQ below (va_Qi (fun (r : Int32) (u : wl_S) => r = D.1 ∧ u = (n, b, D.1, D.2)) (BX1 dC dI A h0 h1 h2 cB cC) A) args s 0 0 A) (F0 m 137 ls []) := by
        intro ls hstep hl
        refine lv_aload_n hx hb dX1_read_137 rfl (lv_at hl 0 rfl) ?_
        refine lv_iconst (v := (-1)) hx hb dX1_read_138 (by decide) ?_
        refine va_put (D := (dC, dI)) (ci := 1) (v := .int (-1)) (ty := .int) (C := RX1) (T := TX1) (N := 4) hx hb hts in_X1 tyX1 tyX1_ok nmX1 hown hK hP hD hS 0 rfl rfl 3 (by decide) (hts _ q74) (fun _ h9 => h9) rfl (by decide +kernel) rfl rfl (Nat.le_of_ble_eq_true rfl) dX1_read_139 (fun H locs hP hD hS => ?_)
        have hP : va_P (dC, dI) vwCl [(h0, .inr (1, [.ref h1, .ref h2, .int (nI n), .int (-1)])), (h1, .inl (cB, 1024, .inl (wl_ti b))), (h2, .inl (cC, 1024, .inl (wl_ti w)))] H := hP
        have hD : va_D A [(h0, .inr (1, [.ref h1, .ref h2, .int (nI n), .int (-1)])), (h1, .inl (cB, 1024, .inl (wl_ti b))), (h2, .inl (cC, 1024, .inl (wl_ti w)))] := hD
        refine lv_iconst (v := (-1)) hx hb dX1_read_142 (by decide) ?_
        have hE : D = (-1, w) := hnone hstep
        exact W.iret (v := -1) hx hb hr (fun t ht hW => ⟨⟨(-1), (n, b, -1, w), rfl, by rw [hE]; exact ⟨rfl, rfl⟩, by rw [ht]; exact hP, hD⟩, hS.F ht⟩) hS.2.2 dX1_read_143
      have h121 : ∀ (mm : Nat) (ls : Array Slot), wl_more (b f) = mm → mm ≤ 3 → lv_has ls 10 [(0, .ref h0), (3, .int (nI f)), (4, .int (nI ee)), (5, .int (nI (b f)))] → W p l e R s m args below meth c H locs 0 0 (MQ below (va_Qi (fun (r : Int32) (u : wl_S) => r = D.1 ∧ u = (n, b, D.1, D.2)) (BX1 dC dI A h0 h1 h2 cB cC) A) args s 0 0 A) (F0 m 121 ls [.int (nI mm)]) := by
        intro mm ls em hm3 hl
        refine lv_istore (lv' := [(6, .int (nI mm)), (0, .ref h0), (3, .int (nI f)), (4, .int (nI ee)), (5, .int (nI (b f)))]) hx hb dX1_read_121 hl (by decide) rfl (fun ls hl => ?_)
        refine lv_iload hx hb dX1_read_123 (lv_at hl 0 rfl) ?_
        refine wl_jpos (u := mm) (tgt := 137) hx hb dX1_read_125 (by decide) (by omega) ?_
        refine lv_iload_n hx hb dX1_read_128 rfl (lv_at hl 2 rfl) ?_
        refine lv_iload hx hb dX1_read_129 (lv_at hl 0 rfl) ?_
        refine lv_iadd hx hb dX1_read_131 ?_
        refine wl_e (y := nI (f + mm)) (nI_add f mm) ?_
        refine lv_iload hx hb dX1_read_132 (lv_at hl 3 rfl) ?_
        refine wl_jlt (u := f + mm) (v := ee) (tgt := 144) hx hb dX1_read_134 (by decide) (by omega) (by omega) (fun c => ?_) (fun c => ?_)
        · have hcs : (mm = 0 ∨ mm = 1) ∨ (mm = 2 ∨ mm = 3) := by omega
          have hge : ¬ mm = 0 → 128 ≤ b f := fun z => Nat.not_lt.mp (fun y => z (by rw [← em]; exact if_pos y))
          have hlo : (mm = 1 → 192 ≤ b f) ∧ (mm = 2 → 224 ≤ b f) ∧ (mm = 3 → 240 ≤ b f) := by
            rw [← em, wl_more]
            refine ⟨?_, ?_, ?_⟩ <;> intro z <;> (repeat' split at z) <;> omega
          refine lv_iload hx hb dX1_read_144 (lv_at hl 0 rfl) ?_
          refine wl_jz (u := mm) (tgt := 154) hx hb dX1_read_146 (by decide) (by omega) (fun d0 => ?_) (fun d0 => ?_)
          · refine lv_iload hx hb dX1_read_154 (lv_at hl 0 rfl) ?_
            refine lv_iconst (v := nI 1) hx hb dX1_read_156 (by decide) ?_
            refine wl_jne (u := mm) (v := 1) (tgt := 169) hx hb dX1_read_157 (by decide) (by omega) (by omega) (fun d1 => ?_) (fun d1 => ?_)
            · refine lv_iload hx hb dX1_read_169 (lv_at hl 0 rfl) ?_
              refine lv_iconst (v := nI 2) hx hb dX1_read_171 (by decide) ?_
              refine wl_jne (u := mm) (v := 2) (tgt := 184) hx hb dX1_read_172 (by decide) (by omega) (by omega) (fun d2 => ?_) (fun d2 => ?_)
              · have d3 : mm = 3 := by omega
                refine lv_iload hx hb dX1_read_184 (lv_at hl 4 rfl) ?_
                refine lv_sipush (v := nI 240) hx hb dX1_read_186 (by decide) ?_
                refine lv_isub hx hb dX1_read_189 ?_
                refine wl_e (y := nI (wl_start (b f) mm)) ((pk_sub (hlo.2.2 d3)).trans (by rw [d3]; rfl)) ?_
                exact h190 mm ls em hm3 c (lv_sub hl [1, 2, 3, 0] rfl)
              · refine lv_iload hx hb dX1_read_175 (lv_at hl 4 rfl) ?_
                refine lv_sipush (v := nI 224) hx hb dX1_read_177 (by decide) ?_
                refine lv_isub hx hb dX1_read_180 ?_
                refine wl_e (y := nI (wl_start (b f) mm)) ((pk_sub (hlo.2.1 d2)).trans (by rw [d2]; rfl)) ?_
                refine lv_goto (tgt := 190) hx hb dX1_read_181 (by decide) ?_
                exact h190 mm ls em hm3 c (lv_sub hl [1, 2, 3, 0] rfl)
            · refine lv_iload hx hb dX1_read_160 (lv_at hl 4 rfl) ?_
              refine lv_sipush (v := nI 192) hx hb dX1_read_162 (by decide) ?_
              refine lv_isub hx hb dX1_read_165 ?_
              refine wl_e (y := nI (wl_start (b f) mm)) ((pk_sub (hlo.1 d1)).trans (by rw [d1]; rfl)) ?_
              refine lv_goto (tgt := 190) hx hb dX1_read_166 (by decide) ?_
              exact h190 mm ls em hm3 c (lv_sub hl [1, 2, 3, 0] rfl)
          · refine lv_iload hx hb dX1_read_149 (lv_at hl 4 rfl) ?_
            refine wl_e (y := nI (wl_start (b f) mm)) (by rw [d0]; rfl) ?_
            refine lv_goto (tgt := 190) hx hb dX1_read_151 (by decide) ?_
            exact h190 mm ls em hm3 c (lv_sub hl [1, 2, 3, 0] rfl)
        · exact h137 ls (wl_step_far (Or.inr (by rw [em]; exact c))) (lv_sub hl [1, 2, 3] rfl)
      refine lv_aload_n hx hb dX1_read_40 rfl (lv_at hl 0 rfl) ?_
      refine va_get (D := (dC, dI)) (ci := 1) (v := .ref h1) (C := RX1) (T := TX1) (N := 4) hx hb hts in_X1 hown hK hP 0 rfl rfl 0 (by decide) (hts _ q71) (fun _ h9 => h9) rfl dX1_read_41 ?_
      refine lv_iload_n hx hb dX1_read_44 rfl (lv_at hl 1 rfl) ?_
      refine va_iald hx hb hK hP 1 0 rfl rfl (vp_in_nI (by omega) (by decide)) dX1_read_45 ?_
      refine wl_e (y := nI (b f)) (wl_tiA (by omega)) ?_
      refine lv_istore (lv' := [(5, .int (nI (b f))), (0, .ref h0), (3, .int (nI f)), (4, .int (nI ee))]) hx hb dX1_read_46 hl (by decide) rfl (fun ls hl => ?_)
      refine lv_iload hx hb dX1_read_48 (lv_at hl 0 rfl) ?_
      refine lv_sipush (v := nI 128) hx hb dX1_read_50 (by decide) ?_
      refine wl_jge (u := b f) (v := 128) (tgt := 60) hx hb dX1_read_53 (by decide) (by omega) (by omega) (fun d0 => ?_) (fun d0 => ?_)
      · refine lv_iload hx hb dX1_read_60 (lv_at hl 0 rfl) ?_
        refine lv_sipush (v := nI 194) hx hb dX1_read_62 (by decide) ?_
        refine wl_jlt (u := b f) (v := 194) (tgt := 80) hx hb dX1_read_65 (by decide) (by omega) (by omega) (fun d1 => ?_) (fun d1 => ?_)
        · refine lv_iload hx hb dX1_read_80 (lv_at hl 0 rfl) ?_
          refine lv_sipush (v := nI 224) hx hb dX1_read_82 (by decide) ?_
          refine wl_jlt (u := b f) (v := 224) (tgt := 100) hx hb dX1_read_85 (by decide) (by omega) (by omega) (fun _ => ?_) (fun z => absurd z (by omega))
          refine lv_iload hx hb dX1_read_100 (lv_at hl 0 rfl) ?_
          refine lv_sipush (v := nI 240) hx hb dX1_read_102 (by decide) ?_
          refine wl_jlt (u := b f) (v := 240) (tgt := 120) hx hb dX1_read_105 (by decide) (by omega) (by omega) (fun _ => ?_) (fun z => absurd z (by omega))
          refine lv_iconst (v := (-1)) hx hb dX1_read_120 (by decide) ?_
          refine lv_istore (lv' := [(6, .int (-1)), (5, .int (nI (b f))), (0, .ref h0), (3, .int (nI f)), (4, .int (nI ee))]) hx hb dX1_read_121 hl (by decide) rfl (fun ls hl => ?_)
          refine lv_iload hx hb dX1_read_123 (lv_at hl 0 rfl) ?_
          refine lv_if_lt (tgt := 137) hx hb dX1_read_125 (by decide) (fun _ => ?_) (fun z => absurd (by decide) z)
          exact h137 ls (wl_step_far (Or.inl (by rw [wl_more]; (repeat' split) <;> omega))) (lv_sub hl [2, 3, 4] rfl)
        · refine lv_iload hx hb dX1_read_68 (lv_at hl 0 rfl) ?_
          refine lv_sipush (v := nI 224) hx hb dX1_read_70 (by decide) ?_
          refine wl_jge (u := b f) (v := 224) (tgt := 80) hx hb dX1_read_73 (by decide) (by omega) (by omega) (fun d2 => ?_) (fun d2 => ?_)
          · refine lv_iload hx hb dX1_read_80 (lv_at hl 0 rfl) ?_
            refine lv_sipush (v := nI 224) hx hb dX1_read_82 (by decide) ?_
            refine wl_jlt (u := b f) (v := 224) (tgt := 100) hx hb dX1_read_85 (by decide) (by omega) (by omega) (fun z => absurd z (by omega)) (fun _ => ?_)
            refine lv_iload hx hb dX1_read_88 (lv_at hl 0 rfl) ?_
            refine lv_sipush (v := nI 240) hx hb dX1_read_90 (by decide) ?_
            refine wl_jge (u := b f) (v := 240) (tgt := 100) hx hb dX1_read_93 (by decide) (by omega) (by omega) (fun d3 => ?_) (fun d3 => ?_)
            · refine lv_iload hx hb dX1_read_100 (lv_at hl 0 rfl) ?_
              refine lv_sipush (v := nI 240) hx hb dX1_read_102 (by decide) ?_
              refine wl_jlt (u := b f) (v := 240) (tgt := 120) hx hb dX1_read_105 (by decide) (by omega) (by omega) (fun z => absurd z (by omega)) (fun _ => ?_)
              refine lv_iload hx hb dX1_read_108 (lv_at hl 0 rfl) ?_
              refine lv_sipush (v := nI 245) hx hb dX1_read_110 (by decide) ?_
              refine wl_jge (u := b f) (v := 245) (tgt := 120) hx hb dX1_read_113 (by decide) (by omega) (by omega) (fun d4 => ?_) (fun d4 => ?_)
              · refine lv_iconst (v := (-1)) hx hb dX1_read_120 (by decide) ?_
                refine lv_istore (lv' := [(6, .int (-1)), (5, .int (nI (b f))), (0, .ref h0), (3, .int (nI f)), (4, .int (nI ee))]) hx hb dX1_read_121 hl (by decide) rfl (fun ls hl => ?_)
                refine lv_iload hx hb dX1_read_123 (lv_at hl 0 rfl) ?_
                refine lv_if_lt (tgt := 137) hx hb dX1_read_125 (by decide) (fun _ => ?_) (fun z => absurd (by decide) z)
                exact h137 ls (wl_step_far (Or.inl (by rw [wl_more]; (repeat' split) <;> omega))) (lv_sub hl [2, 3, 4] rfl)
              · refine lv_iconst (v := nI 3) hx hb dX1_read_116 (by decide) ?_
                refine lv_goto (tgt := 121) hx hb dX1_read_117 (by decide) ?_
                exact h121 3 ls (by rw [wl_more]; (repeat' split) <;> omega) (by decide) (lv_sub hl [1, 2, 3, 0] rfl)
            · refine lv_iconst (v := nI 2) hx hb dX1_read_96 (by decide) ?_
              refine lv_goto (tgt := 121) hx hb dX1_read_97 (by decide) ?_
              exact h121 2 ls (by rw [wl_more]; (repeat' split) <;> omega) (by decide) (lv_sub hl [1, 2, 3, 0] rfl)
          · refine lv_iconst (v := nI 1) hx hb dX1_read_76 (by decide) ?_
            refine lv_goto (tgt := 121) hx hb dX1_read_77 (by decide) ?_
            exact h121 1 ls (by rw [wl_more]; (repeat' split) <;> omega) (by decide) (lv_sub hl [1, 2, 3, 0] rfl)
      · refine lv_iconst (v := nI 0) hx hb dX1_read_56 (by decide) ?_
        refine lv_goto (tgt := 121) hx hb dX1_read_57 (by decide) ?_
        exact h121 0 ls (if_pos d0) (by decide) (lv_sub hl [1, 2, 3, 0] rfl)
abbrev wsX1_read : List Cond := ws_ yX1_read cX1_read 10 (some .int)
set_option maxHeartbeats 4000000 in
set_option maxRecDepth 100000 in
/-- read(at, n): the decoder over the bytes -/
theorem metX1_read (l : Launch) (dC : Nat → ClassId) (dI : Nat → Nat → Nat) (h0 h1 h2 : Nat) (cB cC : ClassId) (sz : Nat) (n : Nat) (b : Nat → Nat) (rd : Int32) (w : Nat → Nat) (p0 : Int32) (p1 : Int32) (hn : n ≤ 1024) (hby : ∀ j, b j < 256) : Met l yX1_read wsX1_read ({ frames := 0, cells := 0, slots := 0, locals := 0 }) (va_Pc [.ref h0, .int p0, .int p1] (fun U => U.heap.size = sz ∧ va_P (dC, dI) vwCl (wX1 h0 h1 h2 cB cC n b rd w) U.heap ∧ va_K (dC, dI) vwCl [(cB, .int), (cC, .int)] U ∧ va_D (fun _ => True) (wX1 h0 h1 h2 cB cC n b rd w))) (va_Qi (fun (r : Int32) (u : wl_S) => r = (wl_read n b w p0 p1).1 ∧ u = (n, b, (wl_read n b w p0 p1).1, (wl_read n b w p0 p1).2)) (BX1 dC dI (va_A (wX1 h0 h1 h2 cB cC n b rd w) sz) h0 h1 h2 cB cC) (va_A (wX1 h0 h1 h2 cB cC n b rd w) sz)) 0 0 (va_A (wX1 h0 h1 h2 cB cC n b rd w) sz) := by
  refine Met.ofW (cc := cX1_read) (maxL := 10) (ret := (some .int)) (by decide) rfl ?_
  intro p e s m args below meth c s₁ B hml hv
  obtain ⟨rfl, hsz, hP, hK, hD0⟩ := hv
  have hx := B.exec
  have hb := B.bytes
  have hr := B.returns
  have hts := atoms_spec (ws := wsX1_read) B.pre
  have hts : ∀ w ∈ lw_all, w.before _ s = true := fun w h => hts w (List.mem_cons_of_mem _ h)
  have hown : s.vm.findClass RX1 = some m.cls := findClass_of_methodNamed B.named
  have hlocks := B.notSynchronized
  subst hsz
  have hD := hD0.self (sz := s.heap.size)
  generalize hAe : va_A (wX1 h0 h1 h2 cB cC n b rd w) s.heap.size = A at hD ⊢
  have hA : ∀ q : Nat, s.heap.size ≤ q → A q := fun q h => by rw [← hAe]; exact Or.inr h
  have hS : va_S A s.heap s.heap [] := va_S.rf
  have hP : va_P (dC, dI) vwCl [(h0, .inr (1, [.ref h1, .ref h2, .int (nI n), .int rd])), (h1, .inl (cB, 1024, .inl (wl_ti b))), (h2, .inl (cC, 1024, .inl (wl_ti w)))] s.heap := hP
  have hD : va_D A [(h0, .inr (1, [.ref h1, .ref h2, .int (nI n), .int rd])), (h1, .inl (cB, 1024, .inl (wl_ti b))), (h2, .inl (cC, 1024, .inl (wl_ti w)))] := hD
  have hl := lv_entry ([.ref h0, .int p0, .int p1]) (n := 10) (Nat.le_of_ble_eq_true rfl)
  rw [lg_entry_eq]
  generalize (lg_sl ([.ref h0, .int p0, .int p1]) ++ List.replicate (10 - (lg_sl ([.ref h0, .int p0, .int p1])).length) Slot.unset).toArray = ls at hl ⊢
  have hl : lv_has ls 10 [(0, .ref h0), (1, .int p0), (2, .int p1)] := hl
  obtain ⟨f, ef, hf⟩ : ∃ f, wl_rdF n p0 = f ∧ f ≤ n := ⟨_, rfl, wl_rdF_le n p0⟩
  have ef2 : wl_m31 p0 % (n + 1) = f := ef
  obtain ⟨g, eg, hg⟩ : ∃ g, wl_m31 p1 % (n - f + 1) = g ∧ g < n - f + 1 := ⟨_, rfl, Nat.mod_lt _ (Nat.succ_pos _)⟩
  have er : wl_read n b w p0 p1 = wl_dec b (f + g) 1025 f 0 w := by rw [wl_read, wl_rdE, ef, eg]
  refine lv_iload_n hx hb dX1_read_0 rfl (lv_at hl 1 rfl) ?_
  refine lv_ldc hx hb hown (hts _ q99) dX1_read_1 ?_
  refine wl_e (y := nI 2147483647) (rfl) ?_
  refine lv_iand hx hb dX1_read_3 ?_
  refine wl_e (y := nI (wl_m31 p0)) (wl_and31 p0) ?_
  refine lv_aload_n hx hb dX1_read_4 rfl (lv_at hl 0 rfl) ?_
  refine va_get (D := (dC, dI)) (ci := 1) (v := .int (nI n)) (C := RX1) (T := TX1) (N := 4) hx hb hts in_X1 hown hK hP 0 rfl rfl 2 (by decide) (hts _ q73) (fun _ h9 => h9) rfl dX1_read_5 ?_
  refine lv_iconst (v := nI 1) hx hb dX1_read_8 (by decide) ?_
  refine lv_iadd hx hb dX1_read_9 ?_
  refine wl_e (y := nI (n + 1)) (nI_add n 1) ?_
  refine lv_irem hx hb dX1_read_10 (nI_ne0 (Nat.succ_pos n) (by omega)) ?_
  refine wl_e (y := nI f) (by rw [wl_rem p0 (Nat.succ_pos n) (by omega), ef2]) ?_
  refine lv_istore_n (lv' := [(3, .int (nI f)), (0, .ref h0), (1, .int p0), (2, .int p1)]) hx hb dX1_read_11 rfl hl (by decide) rfl (fun ls hl => ?_)
  refine lv_iload_n hx hb dX1_read_12 rfl (lv_at hl 0 rfl) ?_
  refine lv_iload_n hx hb dX1_read_13 rfl (lv_at hl 3 rfl) ?_
  refine lv_ldc hx hb hown (hts _ q99) dX1_read_14 ?_
  refine wl_e (y := nI 2147483647) (rfl) ?_
  refine lv_iand hx hb dX1_read_16 ?_
  refine wl_e (y := nI (wl_m31 p1)) (wl_and31 p1) ?_
  refine lv_aload_n hx hb dX1_read_17 rfl (lv_at hl 1 rfl) ?_
  refine va_get (D := (dC, dI)) (ci := 1) (v := .int (nI n)) (C := RX1) (T := TX1) (N := 4) hx hb hts in_X1 hown hK hP 0 rfl rfl 2 (by decide) (hts _ q73) (fun _ h9 => h9) rfl dX1_read_18 ?_
  refine lv_iload_n hx hb dX1_read_21 rfl (lv_at hl 0 rfl) ?_
  refine lv_isub hx hb dX1_read_22 ?_
  refine wl_e (y := nI (n - f)) (pk_sub hf) ?_
  refine lv_iconst (v := nI 1) hx hb dX1_read_23 (by decide) ?_
  refine lv_iadd hx hb dX1_read_24 ?_
  refine wl_e (y := nI (n - f + 1)) (nI_add (n - f) 1) ?_
  refine lv_irem hx hb dX1_read_25 (nI_ne0 (Nat.succ_pos _) (by omega)) ?_
  refine wl_e (y := nI g) (by rw [wl_rem p1 (Nat.succ_pos _) (by omega), eg]) ?_
  refine lv_iadd hx hb dX1_read_26 ?_
  refine wl_e (y := nI (f + g)) (nI_add f g) ?_
  refine lv_istore (lv' := [(4, .int (nI (f + g))), (3, .int (nI f)), (0, .ref h0), (1, .int p0), (2, .int p1)]) hx hb dX1_read_27 hl (by decide) rfl (fun ls hl => ?_)
  refine lv_aload_n hx hb dX1_read_29 rfl (lv_at hl 2 rfl) ?_
  refine lv_iconst (v := nI 0) hx hb dX1_read_30 (by decide) ?_
  refine va_put (D := (dC, dI)) (ci := 1) (v := .int (nI 0)) (ty := .int) (C := RX1) (T := TX1) (N := 4) hx hb hts in_X1 tyX1 tyX1_ok nmX1 hown hK hP hD hS 0 rfl rfl 3 (by decide) (hts _ q74) (fun _ h9 => h9) rfl (by decide +kernel) rfl rfl (Nat.le_of_ble_eq_true rfl) dX1_read_31 (fun H locs hP hD hS => ?_)
  have hP : va_P (dC, dI) vwCl [(h0, .inr (1, [.ref h1, .ref h2, .int (nI n), .int (nI 0)])), (h1, .inl (cB, 1024, .inl (wl_ti b))), (h2, .inl (cC, 1024, .inl (wl_ti w)))] H := hP
  have hD : va_D A [(h0, .inr (1, [.ref h1, .ref h2, .int (nI n), .int (nI 0)])), (h1, .inl (cB, 1024, .inl (wl_ti b))), (h2, .inl (cC, 1024, .inl (wl_ti w)))] := hD
  rw [er]
  exact x1_outer hx hb hr hlocks hml hown hts hA hK hby (by omega) 1025 f 0 w H locs (by omega) (Nat.zero_le _) (by omega) rfl hP hD hS ls (lv_sub hl [2, 1, 0] rfl)
end
section
/-! THE CLAIM OUT OF ONE WALK OF THE LAW'S BODY. Your part is whole_start (and what it stands on); all else here is the same for every law, but numbers. -/
def R_law : String := "WireLettersLaw"
def lw_P (b : Addr) (xs : List Int32) (args : Array Value) (s : State) : Prop := args = #[.ref b] ∧ s.IntsAt b xs ∧ xs.length ≤ 384 ∧ (Jvm.Cond.and given_1 narrow_1).before args s = true
def lw_Q (_ : Array Value) (s : State) (o : Outcome) (t : State) : Prop := o = .returned (some (.int 1)) ∧ Framed s o t [] 600000 7290000
def lw_Z (below : List Frame) (a : Array Value) (s : State) : State → Prop := fun t => ∃ o, t.status = .running ∧ Ended t below o ∧ lw_Q a s o t
/-- the law's own end, with 1 on the stack, nothing written that was there before, its room as the claim has it -/
theorem lw_ret {p : Program} {l : Launch} {e : Env} {s : State} {m : MethodId} {below : List Frame} {meth : Method} {c : Code} {b : Nat} (hx : p.tables.exec = Jvm.exec) (hb : c.code = code) (hr : meth.sig.returnType = ret) (hlocks : meth.locks = false) {pc : Nat} {H : Heap} {ls : Array Slot} (hdg : decode code pc = .ok (.ireturn, 1)) : W p l e room_1 s m #[Value.ref b] below meth c H [] 600000 7290000 (lw_Z below #[Value.ref b] s) (F0 m pc ls [.int 1]) := by
  intro T hT X
  obtain ⟨fs, hret, hrun, hended, hW, hframe⟩ := X.leave (v := some (.int 1)) (hlocks := hlocks) (fun h => by rw [hr] at h; cases h)
  have hmeth' : T.vm.method? m = some meth := X.method'
  refine ⟨T.setFrames fs, ?_, .returned (some (.int 1)), hrun, hended, rfl, ⟨_, rfl⟩, hW, hframe⟩
  jvm_step X.here [X.here.top, hx, hb, hdg, hmeth', hr, ret, narrow_b1]
  (try refine ⟨rfl, ?_⟩); (try refine ⟨rfl, ?_⟩)
  first | (intro acts; rw [hret _ acts rfl rfl rfl]) | rw [hret _ _ rfl rfl rfl]
  exact Steps.refl _
/-- what holds at the law's entry: the machine, the code, the tables' words (any of lw_tbl by 'hts w (by decide +kernel)'), the script of L ints xs at the cell b, what the Statement gives of the start (any of its parts by flat_of_before) -/
def lw_At (p : Program) (s : State) (m : MethodId) (meth : Method) (c : Code) (b L : Nat) (xs : Nat → Int32) : Prop :=
  p.tables.exec = Jvm.exec ∧ c.code = code ∧ meth.sig.returnType = ret ∧ c.maxLocals = 4 ∧ s.vm.findClass R_law = some m.cls ∧ (∀ w ∈ lw_tbl, w.before #[Value.ref b] s = true) ∧ va_X b L xs s s.heap ∧ b < s.heap.size ∧ meth.locks = false ∧ (Jvm.Cond.and given_1 narrow_1).before #[Value.ref b] s = true
theorem wl_lawcmp {L i : Nat} (hL : L < 2 ^ 30) (hi : i < 2 ^ 30) : nI L - nI 6 < nI i ↔ L < i + 6 := by
  rw [Int32.lt_iff_toInt_lt, pk_sub_toInt hL (by decide), nI_toInt (by omega)]
  omega
set_option maxHeartbeats 4000000 in
set_option maxRecDepth 100000 in
/-- THE LAW's LOOP: at its head both objects hold the same (n, bb, rd, w) -/
theorem law_loop {p : Program} {l : Launch} {e : Env} {s : State} {m : MethodId} {below : List Frame} {meth : Method} {c : Code} {dC : Nat → ClassId} {dI : Nat → Nat → Nat} {b L : Nat} {xs : Nat → Int32} (hL : L ≤ 384) (C0 : lw_At p s m meth c b L xs) {t1 t2 x0 x1 x2 m0 m1 m2 : Nat} {cB cC cI cJ : ClassId} (hSt : wl_St t1 t2 (fun q : Nat => s.heap.size ≤ q) s s.heap) (hK : va_K (dC, dI) vwCl [(cB, .byte), (cC, .char), (cI, .int), (cJ, .int)] s) :
    ∀ (k i n : Nat) (bb : Nat → Nat) (rd : Int32) (w : Nat → Nat) (H : Heap) (locs : List Loc), i ≤ L → L < i + k → n ≤ 1024 → (∀ j, bb j < 256) → wl_ok rd → va_P (dC, dI) vwCl [(x0, .inr (0, [.ref x1, .ref x2, .int (nI n), .int rd])), (x1, .inl (cB, 1024, .inl (wl_tb bb))), (x2, .inl (cC, 1024, .inl (wl_ti w))), (m0, .inr (1, [.ref m1, .ref m2, .int (nI n), .int rd])), (m1, .inl (cI, 1024, .inl (wl_ti bb))), (m2, .inl (cJ, 1024, .inl (wl_ti w)))] H → va_D (fun q : Nat => s.heap.size ≤ q) [(x0, .inr (0, [.ref x1, .ref x2, .int (nI n), .int rd])), (x1, .inl (cB, 1024, .inl (wl_tb bb))), (x2, .inl (cC, 1024, .inl (wl_ti w))), (m0, .inr (1, [.ref m1, .ref m2, .int (nI n), .int rd])), (m1, .inl (cI, 1024, .inl (wl_ti bb))), (m2, .inl (cJ, 1024, .inl (wl_ti w)))] → va_S (fun q : Nat => s.heap.size ≤ q) s.heap H locs → ∀ (ls : Array Slot), lv_has ls 4 [(0, .ref b), (1, .ref x0), (2, .ref m0), (3, .int (nI i))] → W p l e room_1 s m #[Value.ref b] below meth c H locs 6 4104 (lw_Z below #[Value.ref b] s) (F0 m 18 ls []) := by
  obtain ⟨hx, hb, hr, hml, hown, hts0, hX, hbl, hlocks, hgv⟩ := C0
  have hts : ∀ w ∈ lw_all, w.before #[Value.ref b] s = true := fun w h => hts0 w (lw_all_tbl h)
  have hA : ∀ q : Nat, s.heap.size ≤ q → (fun q : Nat => s.heap.size ≤ q) q := fun _ h => h
  have hbA : ¬ (fun q : Nat => s.heap.size ≤ q) b := Nat.not_le.mpr hbl
  intro k
  induction k with
  | zero =>
    intro i n bb rd w H locs h1 h2
    exact absurd h2 (by omega)
  | succ k ih =>
    intro i n bb rd w H locs hiL hik hn hby hrd hP hD hS ls hl
    refine lv_iload_n hx hb dL_law_18 rfl (lv_at hl 3 rfl) ?_
    refine lv_aload_n hx hb dL_law_19 rfl (lv_at hl 0 rfl) ?_
    refine va_slen hx hb hX hbl hbA hS dL_law_20 ?_
    refine wl_e (y := nI L) (rfl) ?_
    refine lv_bipush (v := nI 6) hx hb dL_law_21 (by decide) ?_
    refine lv_isub hx hb dL_law_23 ?_
    refine lv_icmp_gt (tgt := 222) hx hb dL_law_24 (by decide) (fun q => ?_) (fun q => ?_)
    · refine lv_iconst (v := 1) hx hb dL_law_222 (by decide) ?_
      refine va_forget (fun q hq => hS.2.2 q hq) ?_
      refine W.widen (k := 600000) (n := 7290000) (Nat.le_of_ble_eq_true rfl) (Nat.le_of_ble_eq_true rfl) ?_
      exact lw_ret hx hb hr hlocks dL_law_223
    · have h6 : i + 6 ≤ L := Nat.not_lt.mp (fun z => q ((wl_lawcmp (by omega) (by omega)).mpr z))
      have h216 : ∀ (n : Nat) (bb : Nat → Nat) (rd : Int32) (w : Nat → Nat) (H : Heap) (locs : List Loc), n ≤ 1024 → (∀ j, bb j < 256) → wl_ok rd → va_P (dC, dI) vwCl [(x0, .inr (0, [.ref x1, .ref x2, .int (nI n), .int rd])), (x1, .inl (cB, 1024, .inl (wl_tb bb))), (x2, .inl (cC, 1024, .inl (wl_ti w))), (m0, .inr (1, [.ref m1, .ref m2, .int (nI n), .int rd])), (m1, .inl (cI, 1024, .inl (wl_ti bb))), (m2, .inl (cJ, 1024, .inl (wl_ti w)))] H → va_D (fun q : Nat => s.heap.size ≤ q) [(x0, .inr (0, [.ref x1, .ref x2, .int (nI n), .int rd])), (x1, .inl (cB, 1024, .inl (wl_tb bb))), (x2, .inl (cC, 1024, .inl (wl_ti w))), (m0, .inr (1, [.ref m1, .ref m2, .int (nI n), .int rd])), (m1, .inl (cI, 1024, .inl (wl_ti bb))), (m2, .inl (cJ, 1024, .inl (wl_ti w)))] → va_S (fun q : Nat => s.heap.size ≤ q) s.heap H locs → ∀ (ls : Array Slot), lv_has ls 4 [(0, .ref b), (1, .ref x0), (2, .ref m0), (3, .int (nI i))] → W p l e room_1 s m #[Value.ref b] below meth c H locs 6 4104 (lw_Z below #[Value.ref b] s) (F0 m 216 ls []) := by
        intro n bb rd w H locs hn hby hrd hP hD hS ls hl
        refine lv_iinc (v := nI (i + 6)) (lv' := [(3, .int (nI (i + 6))), (0, .ref b), (1, .ref x0), (2, .ref m0)]) hx hb dL_law_216 hl (k := 3) rfl (by rw [show Int32.ofInt 6 = nI 6 by decide]; exact nI_add i 6) (by decide) rfl (fun ls hl => ?_)
        refine lv_goto (tgt := 18) hx hb dL_law_219 (by decide) ?_
        exact ih (i + 6) n bb rd w H locs h6 (by omega) hn hby hrd hP hD hS ls (lv_sub hl [1, 2, 3, 0] rfl)
      refine lv_aload_n hx hb dL_law_27 rfl (lv_at hl 0 rfl) ?_
      refine lv_iload_n hx hb dL_law_28 rfl (lv_at hl 3 rfl) ?_
      refine va_sld hx hb hX hbl hbA hS (vp_in_nI (by omega) (by omega)) dL_law_29 ?_
      refine wl_e (y := xs i) (by rw [nI_clamp (by omega)]) ?_
      refine lv_bipush (v := nI 7) hx hb dL_law_30 (by decide) ?_
      obtain ⟨k3, hk3, ek3⟩ := pk_andE (xs i) (m := nI 7) 3 (by decide)
      refine lv_iand hx hb dL_law_32 ?_
      refine wl_e (y := nI k3) (ek3) ?_
      have hk3 : k3 < 8 := hk3
      rcases (show k3 = 0 ∨ k3 = 1 ∨ k3 = 2 ∨ k3 = 3 ∨ k3 = 4 ∨ k3 = 5 ∨ k3 = 6 ∨ k3 = 7 by omega) with rfl | rfl | rfl | rfl | rfl | rfl | rfl | rfl
      · refine lv_tableIn (off := 39) (tgt := 72) hx hb dL_law_33 (by decide) (by decide) (by decide) (by decide) ?_
        refine lv_aload_n hx hb dL_law_72 rfl (lv_at hl 1 rfl) ?_
        refine lv_aload_n hx hb dL_law_73 rfl (lv_at hl 0 rfl) ?_
        refine lv_iload_n hx hb dL_law_74 rfl (lv_at hl 3 rfl) ?_
        refine lv_iconst (v := nI 1) hx hb dL_law_75 (by decide) ?_
        refine lv_iadd hx hb dL_law_76 ?_
        refine wl_e (y := nI (i + 1)) (nI_add i 1) ?_
        refine va_sld hx hb hX hbl hbA hS (vp_in_nI (by omega) (by omega)) dL_law_77 ?_
        refine wl_e (y := xs (i + 1)) (by rw [nI_clamp (by omega)]) ?_
        have hPc := hP.sub (ws' := [(x0, .inr (0, [.ref x1, .ref x2, .int (nI n), .int rd])), (x1, .inl (cB, 1024, .inl (wl_tb bb))), (x2, .inl (cC, 1024, .inl (wl_ti w)))]) [0, 1, 2] rfl
        have hDc := hD.sub (ws' := [(x0, .inr (0, [.ref x1, .ref x2, .int (nI n), .int rd])), (x1, .inl (cB, 1024, .inl (wl_tb bb))), (x2, .inl (cC, 1024, .inl (wl_ti w)))]) [0, 1, 2] (by decide) rfl
        have hKc := hK.sub (tys' := [(cB, .byte), (cC, .char)]) [0, 1] rfl
        have hFc := va_free (wc := [(x0, .inr (0, [.ref x1, .ref x2, .int (nI n), .int rd])), (x1, .inl (cB, 1024, .inl (wl_tb bb))), (x2, .inl (cC, 1024, .inl (wl_ti w)))]) hD hS hA [0, 1, 2] rfl
        refine va_calli (va_runV (As := [.int (xs (i + 1))]) (rest := []) ⟨hx, hb, hml, hown, hts⟩ (metX0_lay l dC dI x0 x1 x2 cB cC H.size n bb rd w (xs (i + 1)) hn) (cwV 1 hts (lw_V q28 q29 q30 q2 q31) rfl rfl rfl (by decide +kernel) ⟨Nat.le_of_ble_eq_true rfl, Nat.le_of_ble_eq_true rfl⟩) ⟨fun a U g mk q => by obtain ⟨q0, q1, qP, qK, qD⟩ := q; exact ⟨q0, q1, qP, va_K.moved (u := U) (U := U.calling g mk a) (Vm.Alike.refl U.vm) qK, qD⟩, va_recv hKc hPc (ci := 0) (q0 := 0) rfl rfl, fun U hU hW => ⟨rfl, by rw [hU], by rw [hU]; exact hPc, va_K.moved hW.alike hKc, hDc.weaken (fun _ _ _ _ => trivial)⟩⟩ rfl rfl hl.1 rfl (lv_room (Nat.le_of_ble_eq_true rfl)) dL_law_78 ⟨Nat.le_of_ble_eq_true rfl, Nat.le_of_ble_eq_true rfl⟩) hS (fun q _ h => hFc q h) hFc (fun r1 u t H1 locs ht hvm hw hB hz1 hk1 hS => ?_)
        obtain ⟨er1, hu⟩ := hw
        subst hu
        obtain ⟨hP1, hD1⟩ := hB
        rw [ht] at hP1
        obtain ⟨hP, hD⟩ := va_join (wr := [(m0, .inr (1, [.ref m1, .ref m2, .int (nI n), .int rd])), (m1, .inl (cI, 1024, .inl (wl_ti bb))), (m2, .inl (cJ, 1024, .inl (wl_ti w)))]) (w1 := [(x0, .inr (0, [.ref x1, .ref x2, .int (nI ((wl_lay n bb (xs (i + 1))).2.1)), .int rd])), (x1, .inl (cB, 1024, .inl (wl_tb ((wl_lay n bb (xs (i + 1))).2.2)))), (x2, .inl (cC, 1024, .inl (wl_ti w)))]) hP hD [0, 1, 2] [3, 4, 5] rfl rfl (by decide) (by decide) hk1 hFc hP1 hD1
        generalize H1 = H at hP hS ⊢
        have hP : va_P (dC, dI) vwCl [(m0, .inr (1, [.ref m1, .ref m2, .int (nI n), .int rd])), (m1, .inl (cI, 1024, .inl (wl_ti bb))), (m2, .inl (cJ, 1024, .inl (wl_ti w))), (x0, .inr (0, [.ref x1, .ref x2, .int (nI ((wl_lay n bb (xs (i + 1))).2.1)), .int rd])), (x1, .inl (cB, 1024, .inl (wl_tb ((wl_lay n bb (xs (i + 1))).2.2)))), (x2, .inl (cC, 1024, .inl (wl_ti w)))] H := hP
        have hD : va_D (fun q : Nat => s.heap.size ≤ q) [(m0, .inr (1, [.ref m1, .ref m2, .int (nI n), .int rd])), (m1, .inl (cI, 1024, .inl (wl_ti bb))), (m2, .inl (cJ, 1024, .inl (wl_ti w))), (x0, .inr (0, [.ref x1, .ref x2, .int (nI ((wl_lay n bb (xs (i + 1))).2.1)), .int rd])), (x1, .inl (cB, 1024, .inl (wl_tb ((wl_lay n bb (xs (i + 1))).2.2)))), (x2, .inl (cC, 1024, .inl (wl_ti w)))] := hD
        refine lv_aload_n hx hb dL_law_81 rfl (lv_at hl 2 rfl) ?_
        refine lv_aload_n hx hb dL_law_82 rfl (lv_at hl 0 rfl) ?_
        refine lv_iload_n hx hb dL_law_83 rfl (lv_at hl 3 rfl) ?_
        refine lv_iconst (v := nI 1) hx hb dL_law_84 (by decide) ?_
        refine lv_iadd hx hb dL_law_85 ?_
        refine wl_e (y := nI (i + 1)) (nI_add i 1) ?_
        refine va_sld hx hb hX hbl hbA hS (vp_in_nI (by omega) (by omega)) dL_law_86 ?_
        refine wl_e (y := xs (i + 1)) (by rw [nI_clamp (by omega)]) ?_
        have hPc := hP.sub (ws' := [(m0, .inr (1, [.ref m1, .ref m2, .int (nI n), .int rd])), (m1, .inl (cI, 1024, .inl (wl_ti bb))), (m2, .inl (cJ, 1024, .inl (wl_ti w)))]) [0, 1, 2] rfl
        have hDc := hD.sub (ws' := [(m0, .inr (1, [.ref m1, .ref m2, .int (nI n), .int rd])), (m1, .inl (cI, 1024, .inl (wl_ti bb))), (m2, .inl (cJ, 1024, .inl (wl_ti w)))]) [0, 1, 2] (by decide) rfl
        have hKc := hK.sub (tys' := [(cI, .int), (cJ, .int)]) [2, 3] rfl
        have hFc := va_free (wc := [(m0, .inr (1, [.ref m1, .ref m2, .int (nI n), .int rd])), (m1, .inl (cI, 1024, .inl (wl_ti bb))), (m2, .inl (cJ, 1024, .inl (wl_ti w)))]) hD hS hA [0, 1, 2] rfl
        refine va_calli (va_runV (As := [.int (xs (i + 1))]) (rest := [.int r1]) ⟨hx, hb, hml, hown, hts⟩ (metX1_lay l dC dI m0 m1 m2 cI cJ H.size n bb rd w (xs (i + 1)) hn) (cwV 1 hts (lw_V q85 q86 q87 q3 q88) rfl rfl rfl (by decide +kernel) ⟨Nat.le_of_ble_eq_true rfl, Nat.le_of_ble_eq_true rfl⟩) ⟨fun a U g mk q => by obtain ⟨q0, q1, qP, qK, qD⟩ := q; exact ⟨q0, q1, qP, va_K.moved (u := U) (U := U.calling g mk a) (Vm.Alike.refl U.vm) qK, qD⟩, va_recv hKc hPc (ci := 1) (q0 := 0) rfl rfl, fun U hU hW => ⟨rfl, by rw [hU], by rw [hU]; exact hPc, va_K.moved hW.alike hKc, hDc.weaken (fun _ _ _ _ => trivial)⟩⟩ rfl rfl hl.1 rfl (lv_room (Nat.le_of_ble_eq_true rfl)) dL_law_87 ⟨Nat.le_of_ble_eq_true rfl, Nat.le_of_ble_eq_true rfl⟩) hS (fun q _ h => hFc q h) hFc (fun r2 u t H1 locs ht hvm hw hB hz1 hk1 hS => ?_)
        obtain ⟨er2, hu⟩ := hw
        subst hu
        obtain ⟨hP1, hD1⟩ := hB
        rw [ht] at hP1
        obtain ⟨hP, hD⟩ := va_join (wr := [(x0, .inr (0, [.ref x1, .ref x2, .int (nI ((wl_lay n bb (xs (i + 1))).2.1)), .int rd])), (x1, .inl (cB, 1024, .inl (wl_tb ((wl_lay n bb (xs (i + 1))).2.2)))), (x2, .inl (cC, 1024, .inl (wl_ti w)))]) (w1 := [(m0, .inr (1, [.ref m1, .ref m2, .int (nI ((wl_lay n bb (xs (i + 1))).2.1)), .int rd])), (m1, .inl (cI, 1024, .inl (wl_ti ((wl_lay n bb (xs (i + 1))).2.2)))), (m2, .inl (cJ, 1024, .inl (wl_ti w)))]) hP hD [0, 1, 2] [3, 4, 5] rfl rfl (by decide) (by decide) hk1 hFc hP1 hD1
        generalize H1 = H at hP hS ⊢
        have hP : va_P (dC, dI) vwCl [(x0, .inr (0, [.ref x1, .ref x2, .int (nI ((wl_lay n bb (xs (i + 1))).2.1)), .int rd])), (x1, .inl (cB, 1024, .inl (wl_tb ((wl_lay n bb (xs (i + 1))).2.2)))), (x2, .inl (cC, 1024, .inl (wl_ti w))), (m0, .inr (1, [.ref m1, .ref m2, .int (nI ((wl_lay n bb (xs (i + 1))).2.1)), .int rd])), (m1, .inl (cI, 1024, .inl (wl_ti ((wl_lay n bb (xs (i + 1))).2.2)))), (m2, .inl (cJ, 1024, .inl (wl_ti w)))] H := hP
        have hD : va_D (fun q : Nat => s.heap.size ≤ q) [(x0, .inr (0, [.ref x1, .ref x2, .int (nI ((wl_lay n bb (xs (i + 1))).2.1)), .int rd])), (x1, .inl (cB, 1024, .inl (wl_tb ((wl_lay n bb (xs (i + 1))).2.2)))), (x2, .inl (cC, 1024, .inl (wl_ti w))), (m0, .inr (1, [.ref m1, .ref m2, .int (nI ((wl_lay n bb (xs (i + 1))).2.1)), .int rd])), (m1, .inl (cI, 1024, .inl (wl_ti ((wl_lay n bb (xs (i + 1))).2.2)))), (m2, .inl (cJ, 1024, .inl (wl_ti w)))] := hD
        refine lv_icmp_eq (tgt := 216) hx hb dL_law_90 (by decide) (fun _ => ?_) (fun z => absurd (er1.trans er2.symm) z)
        exact h216 ((wl_lay n bb (xs (i + 1))).2.1) ((wl_lay n bb (xs (i + 1))).2.2) rd w H locs (wl_lay_ok hn hby).1 (wl_lay_ok hn hby).2 hrd hP hD hS ls (lv_sub hl [0, 1, 2, 3] rfl)
      · refine lv_tableIn (off := 62) (tgt := 95) hx hb dL_law_33 (by decide) (by decide) (by decide) (by decide) ?_
        refine lv_aload_n hx hb dL_law_95 rfl (lv_at hl 1 rfl) ?_
        refine lv_aload_n hx hb dL_law_96 rfl (lv_at hl 0 rfl) ?_
        refine lv_iload_n hx hb dL_law_97 rfl (lv_at hl 3 rfl) ?_
        refine lv_iconst (v := nI 1) hx hb dL_law_98 (by decide) ?_
        refine lv_iadd hx hb dL_law_99 ?_
        refine wl_e (y := nI (i + 1)) (nI_add i 1) ?_
        refine va_sld hx hb hX hbl hbA hS (vp_in_nI (by omega) (by omega)) dL_law_100 ?_
        refine wl_e (y := xs (i + 1)) (by rw [nI_clamp (by omega)]) ?_
        refine lv_aload_n hx hb dL_law_101 rfl (lv_at hl 0 rfl) ?_
        refine lv_iload_n hx hb dL_law_102 rfl (lv_at hl 3 rfl) ?_
        refine lv_iconst (v := nI 2) hx hb dL_law_103 (by decide) ?_
        refine lv_iadd hx hb dL_law_104 ?_
        refine wl_e (y := nI (i + 2)) (nI_add i 2) ?_
        refine va_sld hx hb hX hbl hbA hS (vp_in_nI (by omega) (by omega)) dL_law_105 ?_
        refine wl_e (y := xs (i + 2)) (by rw [nI_clamp (by omega)]) ?_
        have hPc := hP.sub (ws' := [(x0, .inr (0, [.ref x1, .ref x2, .int (nI n), .int rd])), (x1, .inl (cB, 1024, .inl (wl_tb bb))), (x2, .inl (cC, 1024, .inl (wl_ti w)))]) [0, 1, 2] rfl
        have hDc := hD.sub (ws' := [(x0, .inr (0, [.ref x1, .ref x2, .int (nI n), .int rd])), (x1, .inl (cB, 1024, .inl (wl_tb bb))), (x2, .inl (cC, 1024, .inl (wl_ti w)))]) [0, 1, 2] (by decide) rfl
        have hKc := hK.sub (tys' := [(cB, .byte), (cC, .char)]) [0, 1] rfl
        have hFc := va_free (wc := [(x0, .inr (0, [.ref x1, .ref x2, .int (nI n), .int rd])), (x1, .inl (cB, 1024, .inl (wl_tb bb))), (x2, .inl (cC, 1024, .inl (wl_ti w)))]) hD hS hA [0, 1, 2] rfl
        refine va_callv (va_runV (As := [.int (xs (i + 1)), .int (xs (i + 2))]) (rest := []) ⟨hx, hb, hml, hown, hts⟩ (metX0_spoil l dC dI x0 x1 x2 cB cC H.size n bb rd w (xs (i + 1)) (xs (i + 2)) hn) (cwV 2 hts (lw_V q34 q35 q36 q2 q37) rfl rfl rfl (by decide +kernel) ⟨Nat.le_of_ble_eq_true rfl, Nat.le_of_ble_eq_true rfl⟩) ⟨fun a U g mk q => by obtain ⟨q0, q1, qP, qK, qD⟩ := q; exact ⟨q0, q1, qP, va_K.moved (u := U) (U := U.calling g mk a) (Vm.Alike.refl U.vm) qK, qD⟩, va_recv hKc hPc (ci := 0) (q0 := 0) rfl rfl, fun U hU hW => ⟨rfl, by rw [hU], by rw [hU]; exact hPc, va_K.moved hW.alike hKc, hDc.weaken (fun _ _ _ _ => trivial)⟩⟩ rfl rfl hl.1 rfl (lv_room (Nat.le_of_ble_eq_true rfl)) dL_law_106 ⟨Nat.le_of_ble_eq_true rfl, Nat.le_of_ble_eq_true rfl⟩) hS (fun q _ h => hFc q h) hFc (fun u t H1 locs ht hvm hw hB hz1 hk1 hS => ?_)
        subst hw
        obtain ⟨hP1, hD1⟩ := hB
        rw [ht] at hP1
        obtain ⟨hP, hD⟩ := va_join (wr := [(m0, .inr (1, [.ref m1, .ref m2, .int (nI n), .int rd])), (m1, .inl (cI, 1024, .inl (wl_ti bb))), (m2, .inl (cJ, 1024, .inl (wl_ti w)))]) (w1 := [(x0, .inr (0, [.ref x1, .ref x2, .int (nI n), .int rd])), (x1, .inl (cB, 1024, .inl (wl_tb (wl_spoil n bb (xs (i + 1)) (xs (i + 2)))))), (x2, .inl (cC, 1024, .inl (wl_ti w)))]) hP hD [0, 1, 2] [3, 4, 5] rfl rfl (by decide) (by decide) hk1 hFc hP1 hD1
        generalize H1 = H at hP hS ⊢
        have hP : va_P (dC, dI) vwCl [(m0, .inr (1, [.ref m1, .ref m2, .int (nI n), .int rd])), (m1, .inl (cI, 1024, .inl (wl_ti bb))), (m2, .inl (cJ, 1024, .inl (wl_ti w))), (x0, .inr (0, [.ref x1, .ref x2, .int (nI n), .int rd])), (x1, .inl (cB, 1024, .inl (wl_tb (wl_spoil n bb (xs (i + 1)) (xs (i + 2)))))), (x2, .inl (cC, 1024, .inl (wl_ti w)))] H := hP
        have hD : va_D (fun q : Nat => s.heap.size ≤ q) [(m0, .inr (1, [.ref m1, .ref m2, .int (nI n), .int rd])), (m1, .inl (cI, 1024, .inl (wl_ti bb))), (m2, .inl (cJ, 1024, .inl (wl_ti w))), (x0, .inr (0, [.ref x1, .ref x2, .int (nI n), .int rd])), (x1, .inl (cB, 1024, .inl (wl_tb (wl_spoil n bb (xs (i + 1)) (xs (i + 2)))))), (x2, .inl (cC, 1024, .inl (wl_ti w)))] := hD
        refine lv_aload_n hx hb dL_law_109 rfl (lv_at hl 2 rfl) ?_
        refine lv_aload_n hx hb dL_law_110 rfl (lv_at hl 0 rfl) ?_
        refine lv_iload_n hx hb dL_law_111 rfl (lv_at hl 3 rfl) ?_
        refine lv_iconst (v := nI 1) hx hb dL_law_112 (by decide) ?_
        refine lv_iadd hx hb dL_law_113 ?_
        refine wl_e (y := nI (i + 1)) (nI_add i 1) ?_
        refine va_sld hx hb hX hbl hbA hS (vp_in_nI (by omega) (by omega)) dL_law_114 ?_
        refine wl_e (y := xs (i + 1)) (by rw [nI_clamp (by omega)]) ?_
        refine lv_aload_n hx hb dL_law_115 rfl (lv_at hl 0 rfl) ?_
        refine lv_iload_n hx hb dL_law_116 rfl (lv_at hl 3 rfl) ?_
        refine lv_iconst (v := nI 2) hx hb dL_law_117 (by decide) ?_
        refine lv_iadd hx hb dL_law_118 ?_
        refine wl_e (y := nI (i + 2)) (nI_add i 2) ?_
        refine va_sld hx hb hX hbl hbA hS (vp_in_nI (by omega) (by omega)) dL_law_119 ?_
        refine wl_e (y := xs (i + 2)) (by rw [nI_clamp (by omega)]) ?_
        have hPc := hP.sub (ws' := [(m0, .inr (1, [.ref m1, .ref m2, .int (nI n), .int rd])), (m1, .inl (cI, 1024, .inl (wl_ti bb))), (m2, .inl (cJ, 1024, .inl (wl_ti w)))]) [0, 1, 2] rfl
        have hDc := hD.sub (ws' := [(m0, .inr (1, [.ref m1, .ref m2, .int (nI n), .int rd])), (m1, .inl (cI, 1024, .inl (wl_ti bb))), (m2, .inl (cJ, 1024, .inl (wl_ti w)))]) [0, 1, 2] (by decide) rfl
        have hKc := hK.sub (tys' := [(cI, .int), (cJ, .int)]) [2, 3] rfl
        have hFc := va_free (wc := [(m0, .inr (1, [.ref m1, .ref m2, .int (nI n), .int rd])), (m1, .inl (cI, 1024, .inl (wl_ti bb))), (m2, .inl (cJ, 1024, .inl (wl_ti w)))]) hD hS hA [0, 1, 2] rfl
        refine va_callv (va_runV (As := [.int (xs (i + 1)), .int (xs (i + 2))]) (rest := []) ⟨hx, hb, hml, hown, hts⟩ (metX1_spoil l dC dI m0 m1 m2 cI cJ H.size n bb rd w (xs (i + 1)) (xs (i + 2)) hn) (cwV 2 hts (lw_V q95 q96 q97 q3 q98) rfl rfl rfl (by decide +kernel) ⟨Nat.le_of_ble_eq_true rfl, Nat.le_of_ble_eq_true rfl⟩) ⟨fun a U g mk q => by obtain ⟨q0, q1, qP, qK, qD⟩ := q; exact ⟨q0, q1, qP, va_K.moved (u := U) (U := U.calling g mk a) (Vm.Alike.refl U.vm) qK, qD⟩, va_recv hKc hPc (ci := 1) (q0 := 0) rfl rfl, fun U hU hW => ⟨rfl, by rw [hU], by rw [hU]; exact hPc, va_K.moved hW.alike hKc, hDc.weaken (fun _ _ _ _ => trivial)⟩⟩ rfl rfl hl.1 rfl (lv_room (Nat.le_of_ble_eq_true rfl)) dL_law_120 ⟨Nat.le_of_ble_eq_true rfl, Nat.le_of_ble_eq_true rfl⟩) hS (fun q _ h => hFc q h) hFc (fun u t H1 locs ht hvm hw hB hz1 hk1 hS => ?_)
        subst hw
        obtain ⟨hP1, hD1⟩ := hB
        rw [ht] at hP1
        obtain ⟨hP, hD⟩ := va_join (wr := [(x0, .inr (0, [.ref x1, .ref x2, .int (nI n), .int rd])), (x1, .inl (cB, 1024, .inl (wl_tb (wl_spoil n bb (xs (i + 1)) (xs (i + 2)))))), (x2, .inl (cC, 1024, .inl (wl_ti w)))]) (w1 := [(m0, .inr (1, [.ref m1, .ref m2, .int (nI n), .int rd])), (m1, .inl (cI, 1024, .inl (wl_ti (wl_spoil n bb (xs (i + 1)) (xs (i + 2)))))), (m2, .inl (cJ, 1024, .inl (wl_ti w)))]) hP hD [0, 1, 2] [3, 4, 5] rfl rfl (by decide) (by decide) hk1 hFc hP1 hD1
        generalize H1 = H at hP hS ⊢
        have hP : va_P (dC, dI) vwCl [(x0, .inr (0, [.ref x1, .ref x2, .int (nI n), .int rd])), (x1, .inl (cB, 1024, .inl (wl_tb (wl_spoil n bb (xs (i + 1)) (xs (i + 2)))))), (x2, .inl (cC, 1024, .inl (wl_ti w))), (m0, .inr (1, [.ref m1, .ref m2, .int (nI n), .int rd])), (m1, .inl (cI, 1024, .inl (wl_ti (wl_spoil n bb (xs (i + 1)) (xs (i + 2)))))), (m2, .inl (cJ, 1024, .inl (wl_ti w)))] H := hP
        have hD : va_D (fun q : Nat => s.heap.size ≤ q) [(x0, .inr (0, [.ref x1, .ref x2, .int (nI n), .int rd])), (x1, .inl (cB, 1024, .inl (wl_tb (wl_spoil n bb (xs (i + 1)) (xs (i + 2)))))), (x2, .inl (cC, 1024, .inl (wl_ti w))), (m0, .inr (1, [.ref m1, .ref m2, .int (nI n), .int rd])), (m1, .inl (cI, 1024, .inl (wl_ti (wl_spoil n bb (xs (i + 1)) (xs (i + 2)))))), (m2, .inl (cJ, 1024, .inl (wl_ti w)))] := hD
        refine lv_goto (tgt := 216) hx hb dL_law_123 (by decide) ?_
        exact h216 n (wl_spoil n bb (xs (i + 1)) (xs (i + 2))) rd w H locs hn (wl_spoil_lt hby) hrd hP hD hS ls (lv_sub hl [0, 1, 2, 3] rfl)
      · refine lv_tableIn (off := 93) (tgt := 126) hx hb dL_law_33 (by decide) (by decide) (by decide) (by decide) ?_
        refine lv_aload_n hx hb dL_law_126 rfl (lv_at hl 1 rfl) ?_
        refine lv_aload_n hx hb dL_law_127 rfl (lv_at hl 0 rfl) ?_
        refine lv_iload_n hx hb dL_law_128 rfl (lv_at hl 3 rfl) ?_
        refine lv_iconst (v := nI 1) hx hb dL_law_129 (by decide) ?_
        refine lv_iadd hx hb dL_law_130 ?_
        refine wl_e (y := nI (i + 1)) (nI_add i 1) ?_
        refine va_sld hx hb hX hbl hbA hS (vp_in_nI (by omega) (by omega)) dL_law_131 ?_
        refine wl_e (y := xs (i + 1)) (by rw [nI_clamp (by omega)]) ?_
        have hPc := hP.sub (ws' := [(x0, .inr (0, [.ref x1, .ref x2, .int (nI n), .int rd])), (x1, .inl (cB, 1024, .inl (wl_tb bb))), (x2, .inl (cC, 1024, .inl (wl_ti w)))]) [0, 1, 2] rfl
        have hDc := hD.sub (ws' := [(x0, .inr (0, [.ref x1, .ref x2, .int (nI n), .int rd])), (x1, .inl (cB, 1024, .inl (wl_tb bb))), (x2, .inl (cC, 1024, .inl (wl_ti w)))]) [0, 1, 2] (by decide) rfl
        have hKc := hK.sub (tys' := [(cB, .byte), (cC, .char)]) [0, 1] rfl
        have hFc := va_free (wc := [(x0, .inr (0, [.ref x1, .ref x2, .int (nI n), .int rd])), (x1, .inl (cB, 1024, .inl (wl_tb bb))), (x2, .inl (cC, 1024, .inl (wl_ti w)))]) hD hS hA [0, 1, 2] rfl
        refine va_callv (va_runV (As := [.int (xs (i + 1))]) (rest := []) ⟨hx, hb, hml, hown, hts⟩ (metX0_cut l dC dI x0 x1 x2 cB cC H.size n bb rd w (xs (i + 1)) hn) (cwV 1 hts (lw_V q39 q40 q41 q2 q42) rfl rfl rfl (by decide +kernel) ⟨Nat.le_of_ble_eq_true rfl, Nat.le_of_ble_eq_true rfl⟩) ⟨fun a U g mk q => by obtain ⟨q0, q1, qP, qK, qD⟩ := q; exact ⟨q0, q1, qP, va_K.moved (u := U) (U := U.calling g mk a) (Vm.Alike.refl U.vm) qK, qD⟩, va_recv hKc hPc (ci := 0) (q0 := 0) rfl rfl, fun U hU hW => ⟨rfl, by rw [hU], by rw [hU]; exact hPc, va_K.moved hW.alike hKc, hDc.weaken (fun _ _ _ _ => trivial)⟩⟩ rfl rfl hl.1 rfl (lv_room (Nat.le_of_ble_eq_true rfl)) dL_law_132 ⟨Nat.le_of_ble_eq_true rfl, Nat.le_of_ble_eq_true rfl⟩) hS (fun q _ h => hFc q h) hFc (fun u t H1 locs ht hvm hw hB hz1 hk1 hS => ?_)
        subst hw
        obtain ⟨hP1, hD1⟩ := hB
        rw [ht] at hP1
        obtain ⟨hP, hD⟩ := va_join (wr := [(m0, .inr (1, [.ref m1, .ref m2, .int (nI n), .int rd])), (m1, .inl (cI, 1024, .inl (wl_ti bb))), (m2, .inl (cJ, 1024, .inl (wl_ti w)))]) (w1 := [(x0, .inr (0, [.ref x1, .ref x2, .int (nI (wl_cut n (xs (i + 1)))), .int rd])), (x1, .inl (cB, 1024, .inl (wl_tb bb))), (x2, .inl (cC, 1024, .inl (wl_ti w)))]) hP hD [0, 1, 2] [3, 4, 5] rfl rfl (by decide) (by decide) hk1 hFc hP1 hD1
        generalize H1 = H at hP hS ⊢
        have hP : va_P (dC, dI) vwCl [(m0, .inr (1, [.ref m1, .ref m2, .int (nI n), .int rd])), (m1, .inl (cI, 1024, .inl (wl_ti bb))), (m2, .inl (cJ, 1024, .inl (wl_ti w))), (x0, .inr (0, [.ref x1, .ref x2, .int (nI (wl_cut n (xs (i + 1)))), .int rd])), (x1, .inl (cB, 1024, .inl (wl_tb bb))), (x2, .inl (cC, 1024, .inl (wl_ti w)))] H := hP
        have hD : va_D (fun q : Nat => s.heap.size ≤ q) [(m0, .inr (1, [.ref m1, .ref m2, .int (nI n), .int rd])), (m1, .inl (cI, 1024, .inl (wl_ti bb))), (m2, .inl (cJ, 1024, .inl (wl_ti w))), (x0, .inr (0, [.ref x1, .ref x2, .int (nI (wl_cut n (xs (i + 1)))), .int rd])), (x1, .inl (cB, 1024, .inl (wl_tb bb))), (x2, .inl (cC, 1024, .inl (wl_ti w)))] := hD
        refine lv_aload_n hx hb dL_law_135 rfl (lv_at hl 2 rfl) ?_
        refine lv_aload_n hx hb dL_law_136 rfl (lv_at hl 0 rfl) ?_
        refine lv_iload_n hx hb dL_law_137 rfl (lv_at hl 3 rfl) ?_
        refine lv_iconst (v := nI 1) hx hb dL_law_138 (by decide) ?_
        refine lv_iadd hx hb dL_law_139 ?_
        refine wl_e (y := nI (i + 1)) (nI_add i 1) ?_
        refine va_sld hx hb hX hbl hbA hS (vp_in_nI (by omega) (by omega)) dL_law_140 ?_
        refine wl_e (y := xs (i + 1)) (by rw [nI_clamp (by omega)]) ?_
        have hPc := hP.sub (ws' := [(m0, .inr (1, [.ref m1, .ref m2, .int (nI n), .int rd])), (m1, .inl (cI, 1024, .inl (wl_ti bb))), (m2, .inl (cJ, 1024, .inl (wl_ti w)))]) [0, 1, 2] rfl
        have hDc := hD.sub (ws' := [(m0, .inr (1, [.ref m1, .ref m2, .int (nI n), .int rd])), (m1, .inl (cI, 1024, .inl (wl_ti bb))), (m2, .inl (cJ, 1024, .inl (wl_ti w)))]) [0, 1, 2] (by decide) rfl
        have hKc := hK.sub (tys' := [(cI, .int), (cJ, .int)]) [2, 3] rfl
        have hFc := va_free (wc := [(m0, .inr (1, [.ref m1, .ref m2, .int (nI n), .int rd])), (m1, .inl (cI, 1024, .inl (wl_ti bb))), (m2, .inl (cJ, 1024, .inl (wl_ti w)))]) hD hS hA [0, 1, 2] rfl
        refine va_callv (va_runV (As := [.int (xs (i + 1))]) (rest := []) ⟨hx, hb, hml, hown, hts⟩ (metX1_cut l dC dI m0 m1 m2 cI cJ H.size n bb rd w (xs (i + 1)) hn) (cwV 1 hts (lw_V q100 q101 q102 q3 q103) rfl rfl rfl (by decide +kernel) ⟨Nat.le_of_ble_eq_true rfl, Nat.le_of_ble_eq_true rfl⟩) ⟨fun a U g mk q => by obtain ⟨q0, q1, qP, qK, qD⟩ := q; exact ⟨q0, q1, qP, va_K.moved (u := U) (U := U.calling g mk a) (Vm.Alike.refl U.vm) qK, qD⟩, va_recv hKc hPc (ci := 1) (q0 := 0) rfl rfl, fun U hU hW => ⟨rfl, by rw [hU], by rw [hU]; exact hPc, va_K.moved hW.alike hKc, hDc.weaken (fun _ _ _ _ => trivial)⟩⟩ rfl rfl hl.1 rfl (lv_room (Nat.le_of_ble_eq_true rfl)) dL_law_141 ⟨Nat.le_of_ble_eq_true rfl, Nat.le_of_ble_eq_true rfl⟩) hS (fun q _ h => hFc q h) hFc (fun u t H1 locs ht hvm hw hB hz1 hk1 hS => ?_)
        subst hw
        obtain ⟨hP1, hD1⟩ := hB
        rw [ht] at hP1
        obtain ⟨hP, hD⟩ := va_join (wr := [(x0, .inr (0, [.ref x1, .ref x2, .int (nI (wl_cut n (xs (i + 1)))), .int rd])), (x1, .inl (cB, 1024, .inl (wl_tb bb))), (x2, .inl (cC, 1024, .inl (wl_ti w)))]) (w1 := [(m0, .inr (1, [.ref m1, .ref m2, .int (nI (wl_cut n (xs (i + 1)))), .int rd])), (m1, .inl (cI, 1024, .inl (wl_ti bb))), (m2, .inl (cJ, 1024, .inl (wl_ti w)))]) hP hD [0, 1, 2] [3, 4, 5] rfl rfl (by decide) (by decide) hk1 hFc hP1 hD1
        generalize H1 = H at hP hS ⊢
        have hP : va_P (dC, dI) vwCl [(x0, .inr (0, [.ref x1, .ref x2, .int (nI (wl_cut n (xs (i + 1)))), .int rd])), (x1, .inl (cB, 1024, .inl (wl_tb bb))), (x2, .inl (cC, 1024, .inl (wl_ti w))), (m0, .inr (1, [.ref m1, .ref m2, .int (nI (wl_cut n (xs (i + 1)))), .int rd])), (m1, .inl (cI, 1024, .inl (wl_ti bb))), (m2, .inl (cJ, 1024, .inl (wl_ti w)))] H := hP
        have hD : va_D (fun q : Nat => s.heap.size ≤ q) [(x0, .inr (0, [.ref x1, .ref x2, .int (nI (wl_cut n (xs (i + 1)))), .int rd])), (x1, .inl (cB, 1024, .inl (wl_tb bb))), (x2, .inl (cC, 1024, .inl (wl_ti w))), (m0, .inr (1, [.ref m1, .ref m2, .int (nI (wl_cut n (xs (i + 1)))), .int rd])), (m1, .inl (cI, 1024, .inl (wl_ti bb))), (m2, .inl (cJ, 1024, .inl (wl_ti w)))] := hD
        refine lv_goto (tgt := 216) hx hb dL_law_144 (by decide) ?_
        exact h216 (wl_cut n (xs (i + 1))) bb rd w H locs (Nat.le_trans (wl_cut_le _ _) hn) hby hrd hP hD hS ls (lv_sub hl [0, 1, 2, 3] rfl)
      · refine lv_tableIn (off := 114) (tgt := 147) hx hb dL_law_33 (by decide) (by decide) (by decide) (by decide) ?_
        refine lv_aload_n hx hb dL_law_147 rfl (lv_at hl 1 rfl) ?_
        have hPc := hP.sub (ws' := [(x0, .inr (0, [.ref x1, .ref x2, .int (nI n), .int rd])), (x1, .inl (cB, 1024, .inl (wl_tb bb))), (x2, .inl (cC, 1024, .inl (wl_ti w)))]) [0, 1, 2] rfl
        have hDc := hD.sub (ws' := [(x0, .inr (0, [.ref x1, .ref x2, .int (nI n), .int rd])), (x1, .inl (cB, 1024, .inl (wl_tb bb))), (x2, .inl (cC, 1024, .inl (wl_ti w)))]) [0, 1, 2] (by decide) rfl
        have hKc := hK.sub (tys' := [(cB, .byte), (cC, .char)]) [0, 1] rfl
        have hFc := va_free (wc := [(x0, .inr (0, [.ref x1, .ref x2, .int (nI n), .int rd])), (x1, .inl (cB, 1024, .inl (wl_tb bb))), (x2, .inl (cC, 1024, .inl (wl_ti w)))]) hD hS hA [0, 1, 2] rfl
        refine va_calli (va_runV (As := []) (rest := []) ⟨hx, hb, hml, hown, hts⟩ (metX0_size l dC dI x0 x1 x2 cB cC H.size n bb rd w) (cwV 0 hts (lw_V q43 q44 q45 q2 q46) rfl rfl rfl (by decide +kernel) ⟨Nat.le_of_ble_eq_true rfl, Nat.le_of_ble_eq_true rfl⟩) ⟨fun a U g mk q => by obtain ⟨q0, q1, qP, qK, qD⟩ := q; exact ⟨q0, q1, qP, va_K.moved (u := U) (U := U.calling g mk a) (Vm.Alike.refl U.vm) qK, qD⟩, va_recv hKc hPc (ci := 0) (q0 := 0) rfl rfl, fun U hU hW => ⟨rfl, by rw [hU], by rw [hU]; exact hPc, va_K.moved hW.alike hKc, hDc.weaken (fun _ _ _ _ => trivial)⟩⟩ rfl rfl hl.1 rfl (lv_room (Nat.le_of_ble_eq_true rfl)) dL_law_148 ⟨Nat.le_of_ble_eq_true rfl, Nat.le_of_ble_eq_true rfl⟩) hS (fun q _ h => hFc q h) hFc (fun r1 u t H1 locs ht hvm hw hB hz1 hk1 hS => ?_)
        obtain ⟨er1, hu⟩ := hw
        subst hu
        obtain ⟨hP1, hD1⟩ := hB
        rw [ht] at hP1
        obtain ⟨hP, hD⟩ := va_join (wr := [(m0, .inr (1, [.ref m1, .ref m2, .int (nI n), .int rd])), (m1, .inl (cI, 1024, .inl (wl_ti bb))), (m2, .inl (cJ, 1024, .inl (wl_ti w)))]) (w1 := [(x0, .inr (0, [.ref x1, .ref x2, .int (nI n), .int rd])), (x1, .inl (cB, 1024, .inl (wl_tb bb))), (x2, .inl (cC, 1024, .inl (wl_ti w)))]) hP hD [0, 1, 2] [3, 4, 5] rfl rfl (by decide) (by decide) hk1 hFc hP1 hD1
        generalize H1 = H at hP hS ⊢
        have hP : va_P (dC, dI) vwCl [(m0, .inr (1, [.ref m1, .ref m2, .int (nI n), .int rd])), (m1, .inl (cI, 1024, .inl (wl_ti bb))), (m2, .inl (cJ, 1024, .inl (wl_ti w))), (x0, .inr (0, [.ref x1, .ref x2, .int (nI n), .int rd])), (x1, .inl (cB, 1024, .inl (wl_tb bb))), (x2, .inl (cC, 1024, .inl (wl_ti w)))] H := hP
        have hD : va_D (fun q : Nat => s.heap.size ≤ q) [(m0, .inr (1, [.ref m1, .ref m2, .int (nI n), .int rd])), (m1, .inl (cI, 1024, .inl (wl_ti bb))), (m2, .inl (cJ, 1024, .inl (wl_ti w))), (x0, .inr (0, [.ref x1, .ref x2, .int (nI n), .int rd])), (x1, .inl (cB, 1024, .inl (wl_tb bb))), (x2, .inl (cC, 1024, .inl (wl_ti w)))] := hD
        refine lv_aload_n hx hb dL_law_151 rfl (lv_at hl 2 rfl) ?_
        have hPc := hP.sub (ws' := [(m0, .inr (1, [.ref m1, .ref m2, .int (nI n), .int rd])), (m1, .inl (cI, 1024, .inl (wl_ti bb))), (m2, .inl (cJ, 1024, .inl (wl_ti w)))]) [0, 1, 2] rfl
        have hDc := hD.sub (ws' := [(m0, .inr (1, [.ref m1, .ref m2, .int (nI n), .int rd])), (m1, .inl (cI, 1024, .inl (wl_ti bb))), (m2, .inl (cJ, 1024, .inl (wl_ti w)))]) [0, 1, 2] (by decide) rfl
        have hKc := hK.sub (tys' := [(cI, .int), (cJ, .int)]) [2, 3] rfl
        have hFc := va_free (wc := [(m0, .inr (1, [.ref m1, .ref m2, .int (nI n), .int rd])), (m1, .inl (cI, 1024, .inl (wl_ti bb))), (m2, .inl (cJ, 1024, .inl (wl_ti w)))]) hD hS hA [0, 1, 2] rfl
        refine va_calli (va_runV (As := []) (rest := [.int r1]) ⟨hx, hb, hml, hown, hts⟩ (metX1_size l dC dI m0 m1 m2 cI cJ H.size n bb rd w) (cwV 0 hts (lw_V q104 q105 q106 q3 q107) rfl rfl rfl (by decide +kernel) ⟨Nat.le_of_ble_eq_true rfl, Nat.le_of_ble_eq_true rfl⟩) ⟨fun a U g mk q => by obtain ⟨q0, q1, qP, qK, qD⟩ := q; exact ⟨q0, q1, qP, va_K.moved (u := U) (U := U.calling g mk a) (Vm.Alike.refl U.vm) qK, qD⟩, va_recv hKc hPc (ci := 1) (q0 := 0) rfl rfl, fun U hU hW => ⟨rfl, by rw [hU], by rw [hU]; exact hPc, va_K.moved hW.alike hKc, hDc.weaken (fun _ _ _ _ => trivial)⟩⟩ rfl rfl hl.1 rfl (lv_room (Nat.le_of_ble_eq_true rfl)) dL_law_152 ⟨Nat.le_of_ble_eq_true rfl, Nat.le_of_ble_eq_true rfl⟩) hS (fun q _ h => hFc q h) hFc (fun r2 u t H1 locs ht hvm hw hB hz1 hk1 hS => ?_)
        obtain ⟨er2, hu⟩ := hw
        subst hu
        obtain ⟨hP1, hD1⟩ := hB
        rw [ht] at hP1
        obtain ⟨hP, hD⟩ := va_join (wr := [(x0, .inr (0, [.ref x1, .ref x2, .int (nI n), .int rd])), (x1, .inl (cB, 1024, .inl (wl_tb bb))), (x2, .inl (cC, 1024, .inl (wl_ti w)))]) (w1 := [(m0, .inr (1, [.ref m1, .ref m2, .int (nI n), .int rd])), (m1, .inl (cI, 1024, .inl (wl_ti bb))), (m2, .inl (cJ, 1024, .inl (wl_ti w)))]) hP hD [0, 1, 2] [3, 4, 5] rfl rfl (by decide) (by decide) hk1 hFc hP1 hD1
        generalize H1 = H at hP hS ⊢
        have hP : va_P (dC, dI) vwCl [(x0, .inr (0, [.ref x1, .ref x2, .int (nI n), .int rd])), (x1, .inl (cB, 1024, .inl (wl_tb bb))), (x2, .inl (cC, 1024, .inl (wl_ti w))), (m0, .inr (1, [.ref m1, .ref m2, .int (nI n), .int rd])), (m1, .inl (cI, 1024, .inl (wl_ti bb))), (m2, .inl (cJ, 1024, .inl (wl_ti w)))] H := hP
        have hD : va_D (fun q : Nat => s.heap.size ≤ q) [(x0, .inr (0, [.ref x1, .ref x2, .int (nI n), .int rd])), (x1, .inl (cB, 1024, .inl (wl_tb bb))), (x2, .inl (cC, 1024, .inl (wl_ti w))), (m0, .inr (1, [.ref m1, .ref m2, .int (nI n), .int rd])), (m1, .inl (cI, 1024, .inl (wl_ti bb))), (m2, .inl (cJ, 1024, .inl (wl_ti w)))] := hD
        refine lv_icmp_eq (tgt := 216) hx hb dL_law_155 (by decide) (fun _ => ?_) (fun z => absurd (er1.trans er2.symm) z)
        exact h216 n bb rd w H locs hn hby hrd hP hD hS ls (lv_sub hl [0, 1, 2, 3] rfl)
      · refine lv_tableIn (off := 127) (tgt := 160) hx hb dL_law_33 (by decide) (by decide) (by decide) (by decide) ?_
        refine lv_aload_n hx hb dL_law_160 rfl (lv_at hl 1 rfl) ?_
        refine lv_aload_n hx hb dL_law_161 rfl (lv_at hl 0 rfl) ?_
        refine lv_iload_n hx hb dL_law_162 rfl (lv_at hl 3 rfl) ?_
        refine lv_iconst (v := nI 1) hx hb dL_law_163 (by decide) ?_
        refine lv_iadd hx hb dL_law_164 ?_
        refine wl_e (y := nI (i + 1)) (nI_add i 1) ?_
        refine va_sld hx hb hX hbl hbA hS (vp_in_nI (by omega) (by omega)) dL_law_165 ?_
        refine wl_e (y := xs (i + 1)) (by rw [nI_clamp (by omega)]) ?_
        refine lv_aload_n hx hb dL_law_166 rfl (lv_at hl 0 rfl) ?_
        refine lv_iload_n hx hb dL_law_167 rfl (lv_at hl 3 rfl) ?_
        refine lv_iconst (v := nI 2) hx hb dL_law_168 (by decide) ?_
        refine lv_iadd hx hb dL_law_169 ?_
        refine wl_e (y := nI (i + 2)) (nI_add i 2) ?_
        refine va_sld hx hb hX hbl hbA hS (vp_in_nI (by omega) (by omega)) dL_law_170 ?_
        refine wl_e (y := xs (i + 2)) (by rw [nI_clamp (by omega)]) ?_
        have hPc := hP.sub (ws' := [(x0, .inr (0, [.ref x1, .ref x2, .int (nI n), .int rd])), (x1, .inl (cB, 1024, .inl (wl_tb bb))), (x2, .inl (cC, 1024, .inl (wl_ti w)))]) [0, 1, 2] rfl
        have hDc := hD.sub (ws' := [(x0, .inr (0, [.ref x1, .ref x2, .int (nI n), .int rd])), (x1, .inl (cB, 1024, .inl (wl_tb bb))), (x2, .inl (cC, 1024, .inl (wl_ti w)))]) [0, 1, 2] (by decide) rfl
        have hKc := hK.sub (tys' := [(cB, .byte), (cC, .char)]) [0, 1] rfl
        have hFc := va_free (wc := [(x0, .inr (0, [.ref x1, .ref x2, .int (nI n), .int rd])), (x1, .inl (cB, 1024, .inl (wl_tb bb))), (x2, .inl (cC, 1024, .inl (wl_ti w)))]) hD hS hA [0, 1, 2] rfl
        refine va_calli (va_runV (As := [.int (xs (i + 1)), .int (xs (i + 2))]) (rest := []) ⟨hx, hb, hml, hown, hts⟩ (metX0_read l dC dI x0 x1 x2 cB cC H.size n bb rd w t1 t2 (xs (i + 1)) (xs (i + 2)) hn hby) (cwV 2 hts (lw_V q47 q48 q49 q2 q50) rfl rfl rfl (by decide +kernel) ⟨Nat.le_of_ble_eq_true rfl, Nat.le_of_ble_eq_true rfl⟩) ⟨fun a U g mk q => by obtain ⟨q0, q1, qP, qK, qD, qS⟩ := q; exact ⟨q0, q1, qP, va_K.moved (u := U) (U := U.calling g mk a) (Vm.Alike.refl U.vm) qK, qD, wl_St.moved (u := U) (U := U.calling g mk a) (Vm.Alike.refl U.vm) qS⟩, va_recv hKc hPc (ci := 0) (q0 := 0) rfl rfl, fun U hU hW => ⟨rfl, by rw [hU], by rw [hU]; exact hPc, va_K.moved hW.alike hKc, hDc.weaken (fun _ _ _ _ => trivial), by rw [hU]; exact ((hSt.kept hS.2.1).narrow hFc).moved hW.alike⟩⟩ rfl rfl hl.1 rfl (lv_room (Nat.le_of_ble_eq_true rfl)) dL_law_171 ⟨Nat.le_of_ble_eq_true rfl, Nat.le_of_ble_eq_true rfl⟩) hS (fun q _ h => hFc q h) hFc (fun r1 u t H1 locs ht hvm hw hB hz1 hk1 hS => ?_)
        obtain ⟨er1, hu⟩ := hw
        subst hu
        obtain ⟨hP1, hD1⟩ := hB
        rw [ht] at hP1
        obtain ⟨hP, hD⟩ := va_join (wr := [(m0, .inr (1, [.ref m1, .ref m2, .int (nI n), .int rd])), (m1, .inl (cI, 1024, .inl (wl_ti bb))), (m2, .inl (cJ, 1024, .inl (wl_ti w)))]) (w1 := [(x0, .inr (0, [.ref x1, .ref x2, .int (nI n), .int ((wl_read n bb w (xs (i + 1)) (xs (i + 2))).1)])), (x1, .inl (cB, 1024, .inl (wl_tb bb))), (x2, .inl (cC, 1024, .inl (wl_ti ((wl_read n bb w (xs (i + 1)) (xs (i + 2))).2))))]) hP hD [0, 1, 2] [3, 4, 5] rfl rfl (by decide) (by decide) hk1 hFc hP1 hD1
        generalize H1 = H at hP hS ⊢
        have hP : va_P (dC, dI) vwCl [(m0, .inr (1, [.ref m1, .ref m2, .int (nI n), .int rd])), (m1, .inl (cI, 1024, .inl (wl_ti bb))), (m2, .inl (cJ, 1024, .inl (wl_ti w))), (x0, .inr (0, [.ref x1, .ref x2, .int (nI n), .int ((wl_read n bb w (xs (i + 1)) (xs (i + 2))).1)])), (x1, .inl (cB, 1024, .inl (wl_tb bb))), (x2, .inl (cC, 1024, .inl (wl_ti ((wl_read n bb w (xs (i + 1)) (xs (i + 2))).2))))] H := hP
        have hD : va_D (fun q : Nat => s.heap.size ≤ q) [(m0, .inr (1, [.ref m1, .ref m2, .int (nI n), .int rd])), (m1, .inl (cI, 1024, .inl (wl_ti bb))), (m2, .inl (cJ, 1024, .inl (wl_ti w))), (x0, .inr (0, [.ref x1, .ref x2, .int (nI n), .int ((wl_read n bb w (xs (i + 1)) (xs (i + 2))).1)])), (x1, .inl (cB, 1024, .inl (wl_tb bb))), (x2, .inl (cC, 1024, .inl (wl_ti ((wl_read n bb w (xs (i + 1)) (xs (i + 2))).2))))] := hD
        refine lv_aload_n hx hb dL_law_174 rfl (lv_at hl 2 rfl) ?_
        refine lv_aload_n hx hb dL_law_175 rfl (lv_at hl 0 rfl) ?_
        refine lv_iload_n hx hb dL_law_176 rfl (lv_at hl 3 rfl) ?_
        refine lv_iconst (v := nI 1) hx hb dL_law_177 (by decide) ?_
        refine lv_iadd hx hb dL_law_178 ?_
        refine wl_e (y := nI (i + 1)) (nI_add i 1) ?_
        refine va_sld hx hb hX hbl hbA hS (vp_in_nI (by omega) (by omega)) dL_law_179 ?_
        refine wl_e (y := xs (i + 1)) (by rw [nI_clamp (by omega)]) ?_
        refine lv_aload_n hx hb dL_law_180 rfl (lv_at hl 0 rfl) ?_
        refine lv_iload_n hx hb dL_law_181 rfl (lv_at hl 3 rfl) ?_
        refine lv_iconst (v := nI 2) hx hb dL_law_182 (by decide) ?_
        refine lv_iadd hx hb dL_law_183 ?_
        refine wl_e (y := nI (i + 2)) (nI_add i 2) ?_
        refine va_sld hx hb hX hbl hbA hS (vp_in_nI (by omega) (by omega)) dL_law_184 ?_
        refine wl_e (y := xs (i + 2)) (by rw [nI_clamp (by omega)]) ?_
        have hPc := hP.sub (ws' := [(m0, .inr (1, [.ref m1, .ref m2, .int (nI n), .int rd])), (m1, .inl (cI, 1024, .inl (wl_ti bb))), (m2, .inl (cJ, 1024, .inl (wl_ti w)))]) [0, 1, 2] rfl
        have hDc := hD.sub (ws' := [(m0, .inr (1, [.ref m1, .ref m2, .int (nI n), .int rd])), (m1, .inl (cI, 1024, .inl (wl_ti bb))), (m2, .inl (cJ, 1024, .inl (wl_ti w)))]) [0, 1, 2] (by decide) rfl
        have hKc := hK.sub (tys' := [(cI, .int), (cJ, .int)]) [2, 3] rfl
        have hFc := va_free (wc := [(m0, .inr (1, [.ref m1, .ref m2, .int (nI n), .int rd])), (m1, .inl (cI, 1024, .inl (wl_ti bb))), (m2, .inl (cJ, 1024, .inl (wl_ti w)))]) hD hS hA [0, 1, 2] rfl
        refine va_calli (va_runV (As := [.int (xs (i + 1)), .int (xs (i + 2))]) (rest := [.int r1]) ⟨hx, hb, hml, hown, hts⟩ (metX1_read l dC dI m0 m1 m2 cI cJ H.size n bb rd w (xs (i + 1)) (xs (i + 2)) hn hby) (cwV 2 hts (lw_V q108 q109 q110 q3 q111) rfl rfl rfl (by decide +kernel) ⟨Nat.le_of_ble_eq_true rfl, Nat.le_of_ble_eq_true rfl⟩) ⟨fun a U g mk q => by obtain ⟨q0, q1, qP, qK, qD⟩ := q; exact ⟨q0, q1, qP, va_K.moved (u := U) (U := U.calling g mk a) (Vm.Alike.refl U.vm) qK, qD⟩, va_recv hKc hPc (ci := 1) (q0 := 0) rfl rfl, fun U hU hW => ⟨rfl, by rw [hU], by rw [hU]; exact hPc, va_K.moved hW.alike hKc, hDc.weaken (fun _ _ _ _ => trivial)⟩⟩ rfl rfl hl.1 rfl (lv_room (Nat.le_of_ble_eq_true rfl)) dL_law_185 ⟨Nat.le_of_ble_eq_true rfl, Nat.le_of_ble_eq_true rfl⟩) hS (fun q _ h => hFc q h) hFc (fun r2 u t H1 locs ht hvm hw hB hz1 hk1 hS => ?_)
        obtain ⟨er2, hu⟩ := hw
        subst hu
        obtain ⟨hP1, hD1⟩ := hB
        rw [ht] at hP1
        obtain ⟨hP, hD⟩ := va_join (wr := [(x0, .inr (0, [.ref x1, .ref x2, .int (nI n), .int ((wl_read n bb w (xs (i + 1)) (xs (i + 2))).1)])), (x1, .inl (cB, 1024, .inl (wl_tb bb))), (x2, .inl (cC, 1024, .inl (wl_ti ((wl_read n bb w (xs (i + 1)) (xs (i + 2))).2))))]) (w1 := [(m0, .inr (1, [.ref m1, .ref m2, .int (nI n), .int ((wl_read n bb w (xs (i + 1)) (xs (i + 2))).1)])), (m1, .inl (cI, 1024, .inl (wl_ti bb))), (m2, .inl (cJ, 1024, .inl (wl_ti ((wl_read n bb w (xs (i + 1)) (xs (i + 2))).2))))]) hP hD [0, 1, 2] [3, 4, 5] rfl rfl (by decide) (by decide) hk1 hFc hP1 hD1
        generalize H1 = H at hP hS ⊢
        have hP : va_P (dC, dI) vwCl [(x0, .inr (0, [.ref x1, .ref x2, .int (nI n), .int ((wl_read n bb w (xs (i + 1)) (xs (i + 2))).1)])), (x1, .inl (cB, 1024, .inl (wl_tb bb))), (x2, .inl (cC, 1024, .inl (wl_ti ((wl_read n bb w (xs (i + 1)) (xs (i + 2))).2)))), (m0, .inr (1, [.ref m1, .ref m2, .int (nI n), .int ((wl_read n bb w (xs (i + 1)) (xs (i + 2))).1)])), (m1, .inl (cI, 1024, .inl (wl_ti bb))), (m2, .inl (cJ, 1024, .inl (wl_ti ((wl_read n bb w (xs (i + 1)) (xs (i + 2))).2))))] H := hP
        have hD : va_D (fun q : Nat => s.heap.size ≤ q) [(x0, .inr (0, [.ref x1, .ref x2, .int (nI n), .int ((wl_read n bb w (xs (i + 1)) (xs (i + 2))).1)])), (x1, .inl (cB, 1024, .inl (wl_tb bb))), (x2, .inl (cC, 1024, .inl (wl_ti ((wl_read n bb w (xs (i + 1)) (xs (i + 2))).2)))), (m0, .inr (1, [.ref m1, .ref m2, .int (nI n), .int ((wl_read n bb w (xs (i + 1)) (xs (i + 2))).1)])), (m1, .inl (cI, 1024, .inl (wl_ti bb))), (m2, .inl (cJ, 1024, .inl (wl_ti ((wl_read n bb w (xs (i + 1)) (xs (i + 2))).2))))] := hD
        refine lv_icmp_eq (tgt := 216) hx hb dL_law_188 (by decide) (fun _ => ?_) (fun z => absurd (er1.trans er2.symm) z)
        exact h216 n bb ((wl_read n bb w (xs (i + 1)) (xs (i + 2))).1) ((wl_read n bb w (xs (i + 1)) (xs (i + 2))).2) H locs hn hby (wl_read_ok hn) hP hD hS ls (lv_sub hl [0, 1, 2, 3] rfl)
      · refine lv_tableIn (off := 160) (tgt := 193) hx hb dL_law_33 (by decide) (by decide) (by decide) (by decide) ?_
        refine lv_aload_n hx hb dL_law_193 rfl (lv_at hl 1 rfl) ?_
        refine lv_aload_n hx hb dL_law_194 rfl (lv_at hl 0 rfl) ?_
        refine lv_iload_n hx hb dL_law_195 rfl (lv_at hl 3 rfl) ?_
        refine lv_iconst (v := nI 1) hx hb dL_law_196 (by decide) ?_
        refine lv_iadd hx hb dL_law_197 ?_
        refine wl_e (y := nI (i + 1)) (nI_add i 1) ?_
        refine va_sld hx hb hX hbl hbA hS (vp_in_nI (by omega) (by omega)) dL_law_198 ?_
        refine wl_e (y := xs (i + 1)) (by rw [nI_clamp (by omega)]) ?_
        have hPc := hP.sub (ws' := [(x0, .inr (0, [.ref x1, .ref x2, .int (nI n), .int rd])), (x1, .inl (cB, 1024, .inl (wl_tb bb))), (x2, .inl (cC, 1024, .inl (wl_ti w)))]) [0, 1, 2] rfl
        have hDc := hD.sub (ws' := [(x0, .inr (0, [.ref x1, .ref x2, .int (nI n), .int rd])), (x1, .inl (cB, 1024, .inl (wl_tb bb))), (x2, .inl (cC, 1024, .inl (wl_ti w)))]) [0, 1, 2] (by decide) rfl
        have hKc := hK.sub (tys' := [(cB, .byte), (cC, .char)]) [0, 1] rfl
        have hFc := va_free (wc := [(x0, .inr (0, [.ref x1, .ref x2, .int (nI n), .int rd])), (x1, .inl (cB, 1024, .inl (wl_tb bb))), (x2, .inl (cC, 1024, .inl (wl_ti w)))]) hD hS hA [0, 1, 2] rfl
        refine va_calli (va_runV (As := [.int (xs (i + 1))]) (rest := []) ⟨hx, hb, hml, hown, hts⟩ (metX0_letter l dC dI x0 x1 x2 cB cC H.size n bb rd w (xs (i + 1)) hrd) (cwV 1 hts (lw_V q61 q62 q63 q2 q64) rfl rfl rfl (by decide +kernel) ⟨Nat.le_of_ble_eq_true rfl, Nat.le_of_ble_eq_true rfl⟩) ⟨fun a U g mk q => by obtain ⟨q0, q1, qP, qK, qD⟩ := q; exact ⟨q0, q1, qP, va_K.moved (u := U) (U := U.calling g mk a) (Vm.Alike.refl U.vm) qK, qD⟩, va_recv hKc hPc (ci := 0) (q0 := 0) rfl rfl, fun U hU hW => ⟨rfl, by rw [hU], by rw [hU]; exact hPc, va_K.moved hW.alike hKc, hDc.weaken (fun _ _ _ _ => trivial)⟩⟩ rfl rfl hl.1 rfl (lv_room (Nat.le_of_ble_eq_true rfl)) dL_law_199 ⟨Nat.le_of_ble_eq_true rfl, Nat.le_of_ble_eq_true rfl⟩) hS (fun q _ h => hFc q h) hFc (fun r1 u t H1 locs ht hvm hw hB hz1 hk1 hS => ?_)
        obtain ⟨er1, hu⟩ := hw
        subst hu
        obtain ⟨hP1, hD1⟩ := hB
        rw [ht] at hP1
        obtain ⟨hP, hD⟩ := va_join (wr := [(m0, .inr (1, [.ref m1, .ref m2, .int (nI n), .int rd])), (m1, .inl (cI, 1024, .inl (wl_ti bb))), (m2, .inl (cJ, 1024, .inl (wl_ti w)))]) (w1 := [(x0, .inr (0, [.ref x1, .ref x2, .int (nI n), .int rd])), (x1, .inl (cB, 1024, .inl (wl_tb bb))), (x2, .inl (cC, 1024, .inl (wl_ti w)))]) hP hD [0, 1, 2] [3, 4, 5] rfl rfl (by decide) (by decide) hk1 hFc hP1 hD1
        generalize H1 = H at hP hS ⊢
        have hP : va_P (dC, dI) vwCl [(m0, .inr (1, [.ref m1, .ref m2, .int (nI n), .int rd])), (m1, .inl (cI, 1024, .inl (wl_ti bb))), (m2, .inl (cJ, 1024, .inl (wl_ti w))), (x0, .inr (0, [.ref x1, .ref x2, .int (nI n), .int rd])), (x1, .inl (cB, 1024, .inl (wl_tb bb))), (x2, .inl (cC, 1024, .inl (wl_ti w)))] H := hP
        have hD : va_D (fun q : Nat => s.heap.size ≤ q) [(m0, .inr (1, [.ref m1, .ref m2, .int (nI n), .int rd])), (m1, .inl (cI, 1024, .inl (wl_ti bb))), (m2, .inl (cJ, 1024, .inl (wl_ti w))), (x0, .inr (0, [.ref x1, .ref x2, .int (nI n), .int rd])), (x1, .inl (cB, 1024, .inl (wl_tb bb))), (x2, .inl (cC, 1024, .inl (wl_ti w)))] := hD
        refine lv_aload_n hx hb dL_law_202 rfl (lv_at hl 2 rfl) ?_
        refine lv_aload_n hx hb dL_law_203 rfl (lv_at hl 0 rfl) ?_
        refine lv_iload_n hx hb dL_law_204 rfl (lv_at hl 3 rfl) ?_
        refine lv_iconst (v := nI 1) hx hb dL_law_205 (by decide) ?_
        refine lv_iadd hx hb dL_law_206 ?_
        refine wl_e (y := nI (i + 1)) (nI_add i 1) ?_
        refine va_sld hx hb hX hbl hbA hS (vp_in_nI (by omega) (by omega)) dL_law_207 ?_
        refine wl_e (y := xs (i + 1)) (by rw [nI_clamp (by omega)]) ?_
        have hPc := hP.sub (ws' := [(m0, .inr (1, [.ref m1, .ref m2, .int (nI n), .int rd])), (m1, .inl (cI, 1024, .inl (wl_ti bb))), (m2, .inl (cJ, 1024, .inl (wl_ti w)))]) [0, 1, 2] rfl
        have hDc := hD.sub (ws' := [(m0, .inr (1, [.ref m1, .ref m2, .int (nI n), .int rd])), (m1, .inl (cI, 1024, .inl (wl_ti bb))), (m2, .inl (cJ, 1024, .inl (wl_ti w)))]) [0, 1, 2] (by decide) rfl
        have hKc := hK.sub (tys' := [(cI, .int), (cJ, .int)]) [2, 3] rfl
        have hFc := va_free (wc := [(m0, .inr (1, [.ref m1, .ref m2, .int (nI n), .int rd])), (m1, .inl (cI, 1024, .inl (wl_ti bb))), (m2, .inl (cJ, 1024, .inl (wl_ti w)))]) hD hS hA [0, 1, 2] rfl
        refine va_calli (va_runV (As := [.int (xs (i + 1))]) (rest := [.int r1]) ⟨hx, hb, hml, hown, hts⟩ (metX1_letter l dC dI m0 m1 m2 cI cJ H.size n bb rd w (xs (i + 1)) hrd) (cwV 1 hts (lw_V q116 q117 q118 q3 q119) rfl rfl rfl (by decide +kernel) ⟨Nat.le_of_ble_eq_true rfl, Nat.le_of_ble_eq_true rfl⟩) ⟨fun a U g mk q => by obtain ⟨q0, q1, qP, qK, qD⟩ := q; exact ⟨q0, q1, qP, va_K.moved (u := U) (U := U.calling g mk a) (Vm.Alike.refl U.vm) qK, qD⟩, va_recv hKc hPc (ci := 1) (q0 := 0) rfl rfl, fun U hU hW => ⟨rfl, by rw [hU], by rw [hU]; exact hPc, va_K.moved hW.alike hKc, hDc.weaken (fun _ _ _ _ => trivial)⟩⟩ rfl rfl hl.1 rfl (lv_room (Nat.le_of_ble_eq_true rfl)) dL_law_208 ⟨Nat.le_of_ble_eq_true rfl, Nat.le_of_ble_eq_true rfl⟩) hS (fun q _ h => hFc q h) hFc (fun r2 u t H1 locs ht hvm hw hB hz1 hk1 hS => ?_)
        obtain ⟨er2, hu⟩ := hw
        subst hu
        obtain ⟨hP1, hD1⟩ := hB
        rw [ht] at hP1
        obtain ⟨hP, hD⟩ := va_join (wr := [(x0, .inr (0, [.ref x1, .ref x2, .int (nI n), .int rd])), (x1, .inl (cB, 1024, .inl (wl_tb bb))), (x2, .inl (cC, 1024, .inl (wl_ti w)))]) (w1 := [(m0, .inr (1, [.ref m1, .ref m2, .int (nI n), .int rd])), (m1, .inl (cI, 1024, .inl (wl_ti bb))), (m2, .inl (cJ, 1024, .inl (wl_ti w)))]) hP hD [0, 1, 2] [3, 4, 5] rfl rfl (by decide) (by decide) hk1 hFc hP1 hD1
        generalize H1 = H at hP hS ⊢
        have hP : va_P (dC, dI) vwCl [(x0, .inr (0, [.ref x1, .ref x2, .int (nI n), .int rd])), (x1, .inl (cB, 1024, .inl (wl_tb bb))), (x2, .inl (cC, 1024, .inl (wl_ti w))), (m0, .inr (1, [.ref m1, .ref m2, .int (nI n), .int rd])), (m1, .inl (cI, 1024, .inl (wl_ti bb))), (m2, .inl (cJ, 1024, .inl (wl_ti w)))] H := hP
        have hD : va_D (fun q : Nat => s.heap.size ≤ q) [(x0, .inr (0, [.ref x1, .ref x2, .int (nI n), .int rd])), (x1, .inl (cB, 1024, .inl (wl_tb bb))), (x2, .inl (cC, 1024, .inl (wl_ti w))), (m0, .inr (1, [.ref m1, .ref m2, .int (nI n), .int rd])), (m1, .inl (cI, 1024, .inl (wl_ti bb))), (m2, .inl (cJ, 1024, .inl (wl_ti w)))] := hD
        refine lv_icmp_eq (tgt := 216) hx hb dL_law_211 (by decide) (fun _ => ?_) (fun z => absurd (er1.trans er2.symm) z)
        exact h216 n bb rd w H locs hn hby hrd hP hD hS ls (lv_sub hl [0, 1, 2, 3] rfl)
      · refine lv_tableOut (tgt := 216) hx hb dL_law_33 (Or.inr (by decide)) (by decide) ?_
        exact h216 n bb rd w H locs hn hby hrd hP hD hS ls (lv_sub hl [0, 1, 2, 3] rfl)
      · refine lv_tableOut (tgt := 216) hx hb dL_law_33 (Or.inr (by decide)) (by decide) ?_
        exact h216 n bb rd w H locs hn hby hrd hP hD hS ls (lv_sub hl [0, 1, 2, 3] rfl)
end
section
theorem wl_mf : ∀ j, j < 128 → (flatC (Jvm.Cond.and given_1 narrow_1))[9 + j]? = some (Cond.eq (.elem (.static "UTF8" "firstUnitTable" "[S") (.int (Int32.ofNat j))) (.int (wl_fT j))) := by decide +kernel
theorem wl_mt : ∀ j, j < 112 → (flatC (Jvm.Cond.and given_1 narrow_1))[141 + j]? = some (Cond.eq (.elem (.static "UTF8" "transitionTable" "[B") (.int (Int32.ofNat j))) (.int (wl_tT j))) := by decide +kernel
/-- the library's tables lie in the start's heap, as the Statement gives them -/
theorem wl_statics {s : State} {b : Nat} (hts : ∀ w ∈ lw_tbl, w.before #[Value.ref b] s = true) (hgv : (Jvm.Cond.and given_1 narrow_1).before #[Value.ref b] s = true) : ∃ t1 t2, wl_St t1 t2 (fun q : Nat => s.heap.size ≤ q) s s.heap := by
  have hs := flat_of_before _ hgv
  have hA : ∀ a : Nat, a < s.heap.size → ¬ (fun q : Nat => s.heap.size ≤ q) a := fun a h => Nat.not_le.mpr h
  obtain ⟨t1, h1, hT1⟩ := va_Tof (tm := .static "UTF8" "firstUnitTable" "[S") (ty := .short) (N := 128) (f := fun j => .int (wl_fT j)) (A := fun q : Nat => s.heap.size ≤ q) (by decide) (hs _ (List.mem_of_getElem? (i := 6) (by decide +kernel))) (va_eqt (z := Int32.ofNat 128) (hs _ (List.mem_of_getElem? (i := 8) (by decide +kernel)))) (fun j hj => va_eqt (hs _ (List.mem_of_getElem? (wl_mf j hj)))) hA
  obtain ⟨t2, h2, hT2⟩ := va_Tof (tm := .static "UTF8" "transitionTable" "[B") (ty := .byte) (N := 112) (f := fun j => .int (wl_tT j)) (A := fun q : Nat => s.heap.size ≤ q) (by decide) (hs _ (List.mem_of_getElem? (i := 138) (by decide +kernel))) (va_eqt (z := Int32.ofNat 112) (hs _ (List.mem_of_getElem? (i := 140) (by decide +kernel)))) (fun j hj => va_eqt (hs _ (List.mem_of_getElem? (wl_mt j hj)))) hA
  exact ⟨t1, t2, va_Zref (hts _ q55) (hts _ (lw_all_tbl q4)) h1 hA, hT1, va_Zref (hts _ q57) (hts _ (lw_all_tbl q4)) h2 hA, hT2⟩
set_option maxHeartbeats 4000000 in
set_option maxRecDepth 100000 in
/-- THE LAW, from its entry -/
theorem whole_start {p : Program} {e : Env} {s : State} {m : MethodId} {below : List Frame} {meth : Method} {c : Code} (l : Launch) (hflags : l.flags = flags0) {b L : Nat} {xs : Nat → Int32} (hL : L ≤ 384) (C0 : lw_At p s m meth c b L xs) : W p l e room_1 s m #[Value.ref b] below meth c s.heap [] 0 0 (lw_Z below #[Value.ref b] s) (entryFrame m ([Value.ref b] : List Value).toArray 4) := by
  obtain ⟨hx, hb, hr, hml, hown, hts0, hX, hbl, hlocks, hgv⟩ := id C0
  have hts : ∀ w ∈ lw_all, w.before #[Value.ref b] s = true := fun w h => hts0 w (lw_all_tbl h)
  have hA : ∀ q : Nat, s.heap.size ≤ q → (fun q : Nat => s.heap.size ≤ q) q := fun _ h => h
  obtain ⟨t1, t2, hSt⟩ := wl_statics hts0 hgv
  obtain ⟨c0, iS0, hKn0⟩ := u_known (C := RX0) (T := TX0) (N := 4) (n := 4) hts0 (fun w h => lw_all_tbl (in_X0 w h)) (hts _ q6)
  obtain ⟨c1, iS1, hKn1⟩ := u_known (C := RX1) (T := TX1) (N := 4) (n := 4) hts0 (fun w h => lw_all_tbl (in_X1 w h)) (hts _ q66)
  obtain ⟨dC, dI, hKc⟩ : ∃ (dC : Nat → ClassId) (dI : Nat → Nat → Nat), ∀ (k : Nat) (q : vw_C), vwCl[k]? = some q → u_Kn s q.1 q.2.1 q.2.2 (dC k) (dI k) := by
    refine ⟨fun k => if k = 0 then c0 else c1, fun k => if k = 0 then iS0 else iS1, ?_⟩
    intro k q hq
    match k, hq with
    | 0, hq => cases hq; exact hKn0
    | 1, hq => cases hq; exact hKn1
    | k + 2, hq => simp [vwCl] at hq
  have hS : va_S (fun q : Nat => s.heap.size ≤ q) s.heap s.heap [] := va_S.rf
  have hK : va_K (dC, dI) vwCl [] s := ⟨hKc, fun k q h => by simp at h⟩
  have hP : va_P (dC, dI) vwCl [] s.heap := fun k q h => by simp at h
  have hD : va_D (fun q : Nat => s.heap.size ≤ q) [] := ⟨fun i j p q h => by simp at h, fun k q h => by simp at h⟩
  have hl := lv_entry ([.ref b]) (n := 4) (Nat.le_of_ble_eq_true rfl)
  rw [lg_entry_eq]
  generalize (lg_sl ([.ref b]) ++ List.replicate (4 - (lg_sl ([.ref b])).length) Slot.unset).toArray = ls at hl ⊢
  have hl : lv_has ls 4 [(0, .ref b)] := hl
  refine va_new (ci := 0) (fs := [.null, .null, .int 0, .int 0]) (C := RX0) (T := TX0) (N := 4) hx hb hts in_X0 tyX0 tyX0_ok hown (hts _ q5) (hts _ q6) (hts _ q2) hK hP hD hS hA rfl (fun j hj => by rcases (show j = 0 ∨ j = 1 ∨ j = 2 ∨ j = 3 by omega) with rfl | rfl | rfl | rfl <;> rfl) (Nat.le_of_ble_eq_true rfl) (Nat.le_of_ble_eq_true rfl) dL_law_0 (fun x0 H hP hD hS => ?_)
  have hP : va_P (dC, dI) vwCl [(x0, .inr (0, [.null, .null, .int 0, .int 0]))] H := hP
  have hD : va_D (fun q : Nat => s.heap.size ≤ q) [(x0, .inr (0, [.null, .null, .int 0, .int 0]))] := hD
  refine W.widen (k := 1) (n := 4) (Nat.le_of_ble_eq_true rfl) (Nat.le_of_ble_eq_true rfl) ?_
  refine lv_dup hx hb dL_law_3 rfl ?_
  have hPc := hP.sub (ws' := [(x0, .inr (0, [.null, .null, .int 0, .int 0]))]) [0] rfl
  have hDc := hD.sub (ws' := [(x0, .inr (0, [.null, .null, .int 0, .int 0]))]) [0] (by decide) rfl
  have hKc := hK.sub (tys' := []) [] rfl
  have hFc := va_free (wc := [(x0, .inr (0, [.null, .null, .int 0, .int 0]))]) hD hS hA [0] rfl
  refine va_callv (va_runI (As := []) (rest := [.ref x0]) ⟨hx, hb, hml, hown, hts⟩ (metX0_init l dC dI x0 H.size) (cwI 0 hts (lw_meth q9) rfl rfl rfl (hts _ q2) (hts _ q7) (hts _ q8) rfl (by decide +kernel) ⟨Nat.le_of_ble_eq_true rfl, Nat.le_of_ble_eq_true rfl⟩) ⟨fun a U g mk q => by obtain ⟨q0, q1, qP, qK, qD⟩ := q; exact ⟨q0, q1, qP, va_K.moved (u := U) (U := U.calling g mk a) (Vm.Alike.refl U.vm) qK, qD⟩, fun U hU hW => ⟨rfl, by rw [hU], by rw [hU]; exact hPc, va_K.moved hW.alike hKc, hDc.weaken (fun _ _ _ _ => trivial)⟩⟩ rfl rfl hl.1 rfl (lv_room (Nat.le_of_ble_eq_true rfl)) dL_law_4 ⟨Nat.le_of_ble_eq_true rfl, Nat.le_of_ble_eq_true rfl⟩) hS (fun q _ h => hFc q h) hFc (fun u t H1 locs ht hvm hw hB hz1 hk1 hS => ?_)
  obtain ⟨x1, x2, cB, cC⟩ := u
  obtain ⟨hP1, hK1, hD1⟩ := hB
  rw [ht] at hP1
  have hK1 := va_K.moved hvm.symm hK1
  obtain ⟨hP, hD⟩ := va_join (wr := []) (w1 := [(x0, .inr (0, [.ref x1, .ref x2, .int (nI 0), .int (nI 0)])), (x1, .inl (cB, 1024, .inl (wl_tb (fun _ => 0)))), (x2, .inl (cC, 1024, .inl (wl_ti (fun _ => 0))))]) hP hD [0] [] rfl rfl (by decide) (by decide) hk1 hFc hP1 hD1
  have hK := hK.app hK1
  have hK : va_K (dC, dI) vwCl [(cB, .byte), (cC, .char)] s := hK
  generalize H1 = H at hP hS ⊢
  have hP : va_P (dC, dI) vwCl [(x0, .inr (0, [.ref x1, .ref x2, .int (nI 0), .int (nI 0)])), (x1, .inl (cB, 1024, .inl (wl_tb (fun _ => 0)))), (x2, .inl (cC, 1024, .inl (wl_ti (fun _ => 0))))] H := hP
  have hD : va_D (fun q : Nat => s.heap.size ≤ q) [(x0, .inr (0, [.ref x1, .ref x2, .int (nI 0), .int (nI 0)])), (x1, .inl (cB, 1024, .inl (wl_tb (fun _ => 0)))), (x2, .inl (cC, 1024, .inl (wl_ti (fun _ => 0))))] := hD
  refine W.widen (k := 3) (n := 2052) (Nat.le_of_ble_eq_true rfl) (Nat.le_of_ble_eq_true rfl) ?_
  refine lv_astore_n (lv' := [(1, .ref x0), (0, .ref b)]) hx hb dL_law_7 rfl hl (by decide) rfl (fun ls hl => ?_)
  refine va_new (ci := 1) (fs := [.null, .null, .int 0, .int 0]) (C := RX1) (T := TX1) (N := 4) hx hb hts in_X1 tyX1 tyX1_ok hown (hts _ q65) (hts _ q66) (hts _ q3) hK hP hD hS hA rfl (fun j hj => by rcases (show j = 0 ∨ j = 1 ∨ j = 2 ∨ j = 3 by omega) with rfl | rfl | rfl | rfl <;> rfl) (Nat.le_of_ble_eq_true rfl) (Nat.le_of_ble_eq_true rfl) dL_law_8 (fun m0 H hP hD hS => ?_)
  have hP : va_P (dC, dI) vwCl [(x0, .inr (0, [.ref x1, .ref x2, .int (nI 0), .int (nI 0)])), (x1, .inl (cB, 1024, .inl (wl_tb (fun _ => 0)))), (x2, .inl (cC, 1024, .inl (wl_ti (fun _ => 0)))), (m0, .inr (1, [.null, .null, .int 0, .int 0]))] H := hP
  have hD : va_D (fun q : Nat => s.heap.size ≤ q) [(x0, .inr (0, [.ref x1, .ref x2, .int (nI 0), .int (nI 0)])), (x1, .inl (cB, 1024, .inl (wl_tb (fun _ => 0)))), (x2, .inl (cC, 1024, .inl (wl_ti (fun _ => 0)))), (m0, .inr (1, [.null, .null, .int 0, .int 0]))] := hD
  refine W.widen (k := 4) (n := 2056) (Nat.le_of_ble_eq_true rfl) (Nat.le_of_ble_eq_true rfl) ?_
  refine lv_dup hx hb dL_law_11 rfl ?_
  have hPc := hP.sub (ws' := [(m0, .inr (1, [.null, .null, .int 0, .int 0]))]) [3] rfl
  have hDc := hD.sub (ws' := [(m0, .inr (1, [.null, .null, .int 0, .int 0]))]) [3] (by decide) rfl
  have hKc := hK.sub (tys' := []) [] rfl
  have hFc := va_free (wc := [(m0, .inr (1, [.null, .null, .int 0, .int 0]))]) hD hS hA [3] rfl
  refine va_callv (va_runI (As := []) (rest := [.ref m0]) ⟨hx, hb, hml, hown, hts⟩ (metX1_init l dC dI m0 H.size) (cwI 0 hts (lw_meth q69) rfl rfl rfl (hts _ q3) (hts _ q67) (hts _ q68) rfl (by decide +kernel) ⟨Nat.le_of_ble_eq_true rfl, Nat.le_of_ble_eq_true rfl⟩) ⟨fun a U g mk q => by obtain ⟨q0, q1, qP, qK, qD⟩ := q; exact ⟨q0, q1, qP, va_K.moved (u := U) (U := U.calling g mk a) (Vm.Alike.refl U.vm) qK, qD⟩, fun U hU hW => ⟨rfl, by rw [hU], by rw [hU]; exact hPc, va_K.moved hW.alike hKc, hDc.weaken (fun _ _ _ _ => trivial)⟩⟩ rfl rfl hl.1 rfl (lv_room (Nat.le_of_ble_eq_true rfl)) dL_law_12 ⟨Nat.le_of_ble_eq_true rfl, Nat.le_of_ble_eq_true rfl⟩) hS (fun q _ h => hFc q h) hFc (fun u t H1 locs ht hvm hw hB hz1 hk1 hS => ?_)
  obtain ⟨m1, m2, cI, cJ⟩ := u
  obtain ⟨hP1, hK1, hD1⟩ := hB
  rw [ht] at hP1
  have hK1 := va_K.moved hvm.symm hK1
  obtain ⟨hP, hD⟩ := va_join (wr := [(x0, .inr (0, [.ref x1, .ref x2, .int (nI 0), .int (nI 0)])), (x1, .inl (cB, 1024, .inl (wl_tb (fun _ => 0)))), (x2, .inl (cC, 1024, .inl (wl_ti (fun _ => 0))))]) (w1 := [(m0, .inr (1, [.ref m1, .ref m2, .int (nI 0), .int (nI 0)])), (m1, .inl (cI, 1024, .inl (wl_ti (fun _ => 0)))), (m2, .inl (cJ, 1024, .inl (wl_ti (fun _ => 0))))]) hP hD [3] [0, 1, 2] rfl rfl (by decide) (by decide) hk1 hFc hP1 hD1
  have hK := hK.app hK1
  have hK : va_K (dC, dI) vwCl [(cB, .byte), (cC, .char), (cI, .int), (cJ, .int)] s := hK
  generalize H1 = H at hP hS ⊢
  have hP : va_P (dC, dI) vwCl [(x0, .inr (0, [.ref x1, .ref x2, .int (nI 0), .int (nI 0)])), (x1, .inl (cB, 1024, .inl (wl_tb (fun _ => 0)))), (x2, .inl (cC, 1024, .inl (wl_ti (fun _ => 0)))), (m0, .inr (1, [.ref m1, .ref m2, .int (nI 0), .int (nI 0)])), (m1, .inl (cI, 1024, .inl (wl_ti (fun _ => 0)))), (m2, .inl (cJ, 1024, .inl (wl_ti (fun _ => 0))))] H := hP
  have hD : va_D (fun q : Nat => s.heap.size ≤ q) [(x0, .inr (0, [.ref x1, .ref x2, .int (nI 0), .int (nI 0)])), (x1, .inl (cB, 1024, .inl (wl_tb (fun _ => 0)))), (x2, .inl (cC, 1024, .inl (wl_ti (fun _ => 0)))), (m0, .inr (1, [.ref m1, .ref m2, .int (nI 0), .int (nI 0)])), (m1, .inl (cI, 1024, .inl (wl_ti (fun _ => 0)))), (m2, .inl (cJ, 1024, .inl (wl_ti (fun _ => 0))))] := hD
  refine W.widen (k := 6) (n := 4104) (Nat.le_of_ble_eq_true rfl) (Nat.le_of_ble_eq_true rfl) ?_
  refine lv_astore_n (lv' := [(2, .ref m0), (1, .ref x0), (0, .ref b)]) hx hb dL_law_15 rfl hl (by decide) rfl (fun ls hl => ?_)
  refine lv_iconst (v := nI 0) hx hb dL_law_16 (by decide) ?_
  refine lv_istore_n (lv' := [(3, .int (nI 0)), (2, .ref m0), (1, .ref x0), (0, .ref b)]) hx hb dL_law_17 rfl hl (by decide) rfl (fun ls hl => ?_)
  exact law_loop hL C0 hSt hK (L + 1) 0 0 (fun _ => 0) (nI 0) (fun _ => 0) H locs (Nat.zero_le L) (by omega) (by decide) (fun _ => by decide) (Or.inr ⟨0, by decide, rfl⟩) hP hD hS ls (lv_sub hl [3, 2, 1, 0] rfl)
set_option maxHeartbeats 4000000 in
theorem lw_walk (l : Launch) (hflags : l.flags = flags0) (b : Addr) (xs : List Int32) : MetFree l x (headSpec (Jvm.Cond.code x code maxLocals ret :: tables_1) room_1) (lw_P b xs) (fun _ _ _ _ _ => True) lw_Q := by
  refine MetFree.of_bodyS (code := code) (maxLocals := maxLocals) (ret := ret) (by decide) ?_ ?_
  · intro args s m h hn
    obtain ⟨meth, c, h1, h2, h3, h4, h5, h6, -, -⟩ := Cond.code_spec hn (atoms_spec (ws := Jvm.Cond.code x code maxLocals ret :: tables_1) h _ List.mem_cons_self)
    exact ⟨meth, c, h1, h2, h3, h4, h5, h6⟩
  · intro p e s m args below meth c s₁ B hml0 hP _
    obtain ⟨rfl, hx, hbd, hgv⟩ := hP
    obtain ⟨scr, harrAt, hlist, hof, hsmall⟩ := hx
    obtain ⟨hcb, hkn, -, -⟩ := State.arrayAt?_spec harrAt
    have hown : s.vm.findClass R_law = some m.cls := findClass_of_methodNamed B.named
    have hts0 : ∀ c ∈ (Jvm.Cond.code x code maxLocals ret :: tables_1), c.before #[Value.ref b] s = true := atoms_spec (ws := Jvm.Cond.code x code maxLocals ret :: tables_1) B.pre
    have hts : ∀ w ∈ lw_tbl, w.before #[Value.ref b] s = true := k2_hts_sels lw_privs (fun w hw => hts0 w (List.mem_cons_of_mem _ hw)) lw_privs_ok
    have hml : c.maxLocals = 4 := B.maxLocals_eq (hts0 _ List.mem_cons_self)
    have X₀ : Stand p l e room_1 s m #[Value.ref b] below meth c s₁ [] 0 0 := Stand.of_body B
    have hh0 : s₁.heap = s.heap := by rw [B.state]; rfl
    have hsz : scr.slots.size = xs.length := by rw [← Array.length_toList, hlist, List.length_map]
    have hval : ∀ j : Nat, j < xs.length → scr.slots[j]? = some (.int (xs.getD j 0)) := fun j hj => by
      rw [← Array.getElem?_toList, hlist]
      simp [hj]
    have hbl : b < s.heap.size := (Array.getElem?_eq_some_iff.mp hcb).1
    have hX : va_X b xs.length (fun j => xs.getD j 0) s s.heap := ⟨scr, hcb, hof, hkn, hsz, hval⟩
    have K : W p l e room_1 s m #[Value.ref b] below meth c s₁.heap [] 0 0 (lw_Z below #[Value.ref b] s) (entryFrame m ([Value.ref b] : List Value).toArray 4) := by
      rw [hh0]
      exact whole_start l hflags hbd ⟨B.exec, B.bytes, B.returns, hml, hown, hts, hX, hbl, B.notSynchronized, hgv⟩
    obtain ⟨t, a1, o, b1, b2, b3⟩ := K s₁ rfl X₀
    exact ⟨t, o, a1, b1, b2, b3⟩
theorem lw_pre_spec {args : Array Value} {s : State} (h : (Jvm.Cond.and given_1 narrow_1).before args s = true) (hr : rest_1_c.before args s = true) : ∃ (b : Addr) (xs : List Int32), lw_P b xs args s := by
  have hs := flat_of_before _ h
  have hq := flat_of_before _ hr
  have hc : (Cond.count 1).before args s = true := hs _ (by decide +kernel)
  have harr : (Cond.arrayOf (.arg 0) .int).before args s = true := hs _ (by decide +kernel)
  have hle : (Cond.le (.length (.arg 0)) (.int 384)).before args s = true := hs _ (by decide +kernel)
  have hlen : (Cond.isInt (.length (.arg 0))).before args s = true := hq _ (by decide +kernel)
  have hall : (Cond.all (.arg 0) (.isInt (.elem (.arg 0) (.index 0)))).before args s = true := hq _ (by decide +kernel)
  obtain ⟨b, xs, hb, hx⟩ := State.ints_of_pre rfl harr hlen hall
  have hsm : xs.length < 2 ^ 31 := hx.choose_spec.2.2.2
  have hev : (Term.length (.arg 0)).eval args s none [] s = some (.int xs.length.toInt32) := hx.length_eval hb
  have hv := Cond.le_ints hev (show (Term.int 384).eval args s none [] s = some (.int 384) from rfl)
  have hd : xs.length.toInt32 ≤ 384 := by
    simpa [Cond.before, Cond.holds, hv] using hle
  have hN : xs.length ≤ 384 := (Int32.ofNat_le_ofNat hsm (by decide)).mp (show Int32.ofNat xs.length ≤ Int32.ofNat 384 from hd)
  exact ⟨b, xs, Cond.one_arg hc (show args[0]? = some (.ref b) from hb), hx, hN, h⟩
theorem lw_comes (l : Launch) (hflags : l.flags = flags0) : Comes l x (Jvm.Cond.code x code maxLocals ret :: tables_1) room_1 (fun tb e args s => Calls_1 tb e args s ∧ rest_1 tb e args s ∧ Pre_1 tb e args s)
    (fun _ _ args s o t => lw_Q args s o t) := by
  intro p e ha hc hk s m args below hf hfit hheap happ hpre
  obtain ⟨b, xs, hP⟩ := lw_pre_spec hpre.2.2 hpre.2.1
  obtain ⟨k, o, h1, h2, h3, hQ⟩ := lw_walk l hflags b xs p e ha hc hk s m args below hf ((Spec.applies_iff_loose hf).mp happ).1 hP trivial
  exact ⟨k, o, h1, h2, h3, hQ⟩
theorem lw_frame {s t : State} {o : Outcome} {args : Array Value} (h : Framed s o t [] 600000 7290000) :
    Framed s o t (fieldLocs frame_1_writes args s ++ arrayLocs frame_1_arrays args s ++ staticLocs frame_1_statics s) 600000 7290000 := h
theorem lw_limb (L : Cond) (hL : ∀ (args : Array Value) (s t : State), L.after args s (.returned (some (.int 1))) t = true) :
    ArmFor flags0 classFile x code maxLocals ret World_1 tables_1 room_1 Calls_1 rest_1 Pre_1
      (fun tb e a s o t => postC L tb e a s o t ∧ Framed s o t (fieldLocs frame_1_writes a s ++ arrayLocs frame_1_arrays a s ++ staticLocs frame_1_statics s) 600000 7290000) := by
  intro l hflags _ _ p e ha hc hk s m args below hf hfit hheap happ hpre
  obtain ⟨k, o, h1, h2, h3, rfl, hF⟩ := lw_comes l hflags p e ha hc hk s m args below hf hfit hheap happ hpre
  exact ⟨k, _, h1, h2, h3, hL args s _, lw_frame hF⟩
theorem i_vc : Claimed_1_1 ∧ Claimed_1_2 := ⟨lw_limb limb_1_1 (fun args s t => by simp [limb_1_1, Cond.after, Cond.holds, Cond.value]), lw_limb limb_1_2 (fun args s t => Cond.after_iff.mpr (by
  first | (rw [show limb_1_2 = Cond.eq .result (.int 1) from rfl, Cond.eq_ints (x := 1) (y := 1) rfl rfl]; simp; done) | (simp [limb_1_2, Cond.value, Term.eval]; done)))⟩
end
