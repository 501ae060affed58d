section
-- ===== PART A: goes FIRST, ahead of the names: the tables' words, and 'selects' of the private methods out of them =====
/-- a private method of a class that the tables say can be made, by its rows of tables_1 -/
def lw_okq (q : MethodName × Nat) : Prop := (q.1.cls ≠ "java/lang/invoke/MethodHandle" ∧ q.1.cls ≠ "java/lang/invoke/VarHandle") ∧ Cond.instantiable q.1.cls q.2 ∈ tables_1 ∧ Cond.privateMethod q.1 ∈ tables_1 ∧ Cond.instanceMethod q.1 ∈ tables_1
def lw_privs : List (MethodName × Nat) := []
def lw_tbl : List Cond := k2_sels lw_privs ++ tables_1
theorem lw_privs_ok : ∀ q ∈ lw_privs, lw_okq q := fun _ h => absurd h List.not_mem_nil
-- ===== ONE list of words for every method: the tables' words that hold all through a run =====
def lw_all : List Cond := lw_tbl.filter goodWord
/-- a word of the tables by its place: claim/WORDS.tsv -/
theorem lw_w {w : Cond} (i : Nat) (h : lw_tbl[i]? = some w) (g : goodWord w = true) : w ∈ lw_all := List.mem_filter.mpr ⟨List.mem_of_getElem? h, g⟩
theorem lw_all_tbl {w : Cond} (h : w ∈ lw_all) : w ∈ lw_tbl := (List.mem_filter.mp h).1
theorem lw_self : GoodIn lw_all lw_all := fun w h => ⟨h, good_of_word (List.mem_filter.mp h).2⟩
/-- a class's field words, by their places -/
theorem lw_in (ws : List Cond) (ps : List Nat) (hp : ws = ps.filterMap (fun i => lw_tbl[i]?)) (hg : ws.all goodWord = true) : ∀ w ∈ ws, w ∈ lw_all := by
  intro w h
  have h1 := List.all_eq_true.mp hg w h
  rw [hp] at h
  obtain ⟨i, -, hi⟩ := List.mem_filterMap.mp h
  exact lw_w i hi h1
/-- the words of a contract for the method y with code b, L locals, answer r -/
abbrev ws_ (y : MethodName) (b : ByteArray) (L : Nat) (r : Option FieldType) : List Cond := Cond.code y b L r :: lw_all
theorem lw_meth {y : MethodName} {b : ByteArray} {L : Nat} {r : Option FieldType} (h : Cond.code y b L r ∈ lw_all) : GoodIn lw_all (ws_ y b L r) := by
  intro w hw
  rcases List.mem_cons.mp hw with e | e
  · rw [e]
    exact lw_self _ h
  · exact lw_self _ e
theorem lw_app {a c : List Cond} (ha : ∀ w ∈ a, w ∈ lw_all) (hc : GoodIn lw_all c) : GoodIn lw_all (a ++ c) := by
  intro w hw
  rcases List.mem_append.mp hw with e | e
  · exact lw_self w (ha w e)
  · exact hc w e
/-- what a call through an object asks: cwV n hts (lw_V ..) -/
theorem lw_V {own : String} {idx : Nat} {C : String} {y : MethodName} {b : ByteArray} {L : Nat} {r : Option FieldType} (h1 : Cond.methodLink own idx y ∈ lw_all) (h2 : Cond.instanceMethod y ∈ lw_all) (h3 : Cond.selects C y y ∈ lw_all) (h4 : Cond.initialized C ∈ lw_all) (h5 : Cond.code y b L r ∈ lw_all) : GoodIn lw_all (wsV own idx C y (ws_ y b L r)) := by
  refine lw_app ?_ (lw_meth h5)
  intro w hw
  simp only [List.mem_cons, List.not_mem_nil, or_false] at hw
  rcases hw with e | e | e | e
  · rw [e]; exact h1
  · rw [e]; exact h2
  · rw [e]; exact h3
  · rw [e]; exact h4
/-- what a static call asks: va_cwS n hts (lw_S ..) -/
theorem lw_S {own : String} {idx : Nat} {y : MethodName} {b : ByteArray} {L : Nat} {r : Option FieldType} (h1 : Cond.methodLink own idx y ∈ lw_all) (h2 : Cond.static y ∈ lw_all) (h3 : Cond.initialized y.cls ∈ lw_all) (h4 : Cond.code y b L r ∈ lw_all) : GoodIn lw_all (va_wsS own idx y (ws_ y b L r)) := by
  refine lw_app ?_ (lw_meth h4)
  intro w hw
  simp only [List.mem_cons, List.not_mem_nil, or_false] at hw
  rcases hw with e | e | e
  · rw [e]; exact h1
  · rw [e]; exact h2
  · rw [e]; exact h3
/-- the words of a contract for a method WITH HANDLERS (hh: its table) -/
abbrev wsW_ (y : MethodName) (b : ByteArray) (L : Nat) (r : Option FieldType) (hh : List (Nat × Nat × Nat × Nat)) : List Cond := Cond.codeWith y b L r hh :: lw_all
theorem lw_methW {y : MethodName} {b : ByteArray} {L : Nat} {r : Option FieldType} {hh : List (Nat × Nat × Nat × Nat)} (h : Cond.codeWith y b L r hh ∈ lw_all) : GoodIn lw_all (wsW_ y b L r hh) := by
  intro w hw
  rcases List.mem_cons.mp hw with e | e
  · rw [e]
    exact lw_self _ h
  · exact lw_self _ e
/-- any list of words by their places (lw_in), good -/
theorem lw_good {ws : List Cond} (h : ∀ w ∈ ws, w ∈ lw_all) : GoodIn lw_all ws := fun w hw => lw_self w (h w hw)
/-- what a call of a method with handlers asks: vx_cwVW n hts (lw_VW ..), vx_cwSW n hts (lw_SW ..) -/
theorem lw_VW {own : String} {idx : Nat} {C : String} {y : MethodName} {b : ByteArray} {L : Nat} {r : Option FieldType} {hh : List (Nat × Nat × Nat × Nat)} (h1 : Cond.methodLink own idx y ∈ lw_all) (h2 : Cond.instanceMethod y ∈ lw_all) (h3 : Cond.selects C y y ∈ lw_all) (h4 : Cond.initialized C ∈ lw_all) (h5 : Cond.codeWith y b L r hh ∈ lw_all) : GoodIn lw_all (wsV own idx C y (wsW_ y b L r hh)) := by
  refine lw_app ?_ (lw_methW h5)
  intro w hw
  simp only [List.mem_cons, List.not_mem_nil, or_false] at hw
  rcases hw with e | e | e | e
  · rw [e]; exact h1
  · rw [e]; exact h2
  · rw [e]; exact h3
  · rw [e]; exact h4
theorem lw_SW {own : String} {idx : Nat} {y : MethodName} {b : ByteArray} {L : Nat} {r : Option FieldType} {hh : List (Nat × Nat × Nat × Nat)} (h1 : Cond.methodLink own idx y ∈ lw_all) (h2 : Cond.static y ∈ lw_all) (h3 : Cond.initialized y.cls ∈ lw_all) (h4 : Cond.codeWith y b L r hh ∈ lw_all) : GoodIn lw_all (va_wsS own idx y (wsW_ y b L r hh)) := by
  refine lw_app ?_ (lw_methW h4)
  intro w hw
  simp only [List.mem_cons, List.not_mem_nil, or_false] at hw
  rcases hw with e | e | e
  · rw [e]; exact h1
  · rw [e]; exact h2
  · rw [e]; exact h3
/-- a word by its place in its run of the tables -/
theorem lw_at {r : List Cond} (hr : ∀ w ∈ r, w ∈ lw_tbl) {w : Cond} (i : Nat) (h : r[i]? = some w) : w ∈ lw_tbl := hr w (List.mem_of_getElem? h)
theorem lw_g {w : Cond} (h : w ∈ lw_tbl) (g : goodWord w = true) : w ∈ lw_all := List.mem_filter.mpr ⟨h, g⟩
theorem lw_ms : ∀ w ∈ k2_sels lw_privs, w ∈ lw_tbl := fun w h => show w ∈ k2_sels lw_privs ++ tables_1 from List.mem_append_left _ h
theorem lw_m0 : ∀ w ∈ tables_1, w ∈ lw_tbl := fun w h => show w ∈ k2_sels lw_privs ++ tables_1 from List.mem_append_right (k2_sels lw_privs) h
/-! DECODE ROWS BY BYTES: one lemma an opcode; a method's code is cut into short pieces once, and a row reads its own piece alone. -/
set_option maxRecDepth 100000
/-- the code has just these bytes from pc on -/
def DkAt (code : ByteArray) (pc : Nat) (bs : List UInt8) : Prop := ∀ (j : Nat) (b : UInt8), bs[j]? = some b → code.data.toList[pc + j]? = some b
/-- the piece W has the bytes bs from its place j on -/
def dkIn (W : List UInt8) (j : Nat) (bs : List UInt8) : Bool := decide ((W.drop j).take bs.length = bs)
theorem dk_seg {l W T : List UInt8} {o o2 : Nat} (h : l.drop o = W ++ T) (n : Nat) (hn : W.length = n) (ho : o + n = o2) : l.drop o2 = T := by
  subst ho
  rw [← List.drop_drop, h, List.drop_left' hn]
theorem dk_at {code : ByteArray} {W T bs : List UInt8} {o pc : Nat} (h : code.data.toList.drop o = W ++ T) (j : Nat) (hp : o + j = pc) (hw : dkIn W j bs = true) : DkAt code pc bs := by
  subst hp
  intro i b e
  have h1 := of_decide_eq_true hw
  have h2 : i < bs.length := (List.getElem?_eq_some_iff.mp e).1
  have h3 : W[j + i]? = some b := by
    rw [← h1, List.getElem?_take, if_pos h2, List.getElem?_drop] at e
    exact e
  have h4 : j + i < W.length := (List.getElem?_eq_some_iff.mp h3).1
  have h5 : (code.data.toList.drop o)[j + i]? = some b := by
    rw [h, List.getElem?_append_left h4]
    exact h3
  rw [List.getElem?_drop, ← Nat.add_assoc] at h5
  exact h5
theorem dk_u1 {A : ByteArray} {p : Nat} {b : UInt8} (h : A.data.toList[p]? = some b) : (Reader.u1 : Reader DecodeError Nat) A p = .ok (b.toNat, p + 1) := by
  obtain ⟨h1, h2⟩ := List.getElem?_eq_some_iff.mp h
  have h3 : p < A.size := by simpa using h1
  have h4 : A[p]'h3 = b := h2
  have e : (Reader.u1 : Reader DecodeError Nat) A p = (if h : p < A.size then .ok (A[p].toNat, p + 1) else .error (HasTruncated.truncated p)) := by
    show (do if h : p < A.size then do set (p + 1); Pure.pure A[p].toNat else MonadExcept.throw (HasTruncated.truncated p) : Reader DecodeError Nat) A p = _
    by_cases hi : p < A.size
    · rw [dif_pos hi, dif_pos hi]; rfl
    · rw [dif_neg hi, dif_neg hi]; rfl
  rw [e, dif_pos h3, h4]
theorem dk_bind {α β : Type} {r : Reader DecodeError α} {f : α → Reader DecodeError β} {A : ByteArray} {p s : Nat} {a : α} (h : r A p = .ok (a, s)) : (r >>= f) A p = f a A s := by
  show (do let (a, s) ← r A p; f a A s : Except DecodeError (β × Nat)) = _
  rw [h]
  rfl
theorem dk_map {α β : Type} {r : Reader DecodeError α} {g : α → β} {A : ByteArray} {p s : Nat} {a : α} (h : r A p = .ok (a, s)) : (g <$> r) A p = .ok (g a, s) := by
  show (do let (a, s) ← r A p; .ok (g a, s) : Except DecodeError (β × Nat)) = _
  rw [h]
  rfl
theorem dk_u2 {A : ByteArray} {p : Nat} {a b : UInt8} (h : A.data.toList[p]? = some a) (h2 : A.data.toList[p + 1]? = some b) : (Reader.u2 : Reader DecodeError Nat) A p = .ok (a.toNat * 256 + b.toNat, p + 2) := by
  show (Reader.u1 >>= fun hi => Reader.u1 >>= fun lo => Pure.pure (hi * 256 + lo) : Reader DecodeError Nat) A p = _
  rw [dk_bind (dk_u1 h), dk_bind (dk_u1 h2)]
  rfl
theorem dk_of {code : ByteArray} {pc n : Nat} {i : Instr} (h : Decoder.instr pc code pc = .ok (i, pc + n)) : decode code pc = .ok (i, n) := by
  have e : decode code pc = (match Decoder.instr pc code pc with | .error x => .error x | .ok (j, s) => .ok (j, s - pc)) := by
    show (do let (j, s) ← Decoder.instr pc code pc; Pure.pure (j, s - pc) : Except DecodeError (Instr × Nat)) = _
    cases Decoder.instr pc code pc <;> rfl
  rw [e, h]
  show Except.ok (i, pc + n - pc) = _
  rw [Nat.add_sub_cancel_left]
theorem dk_2 {code : ByteArray} {pc : Nat} (h : DkAt code pc [2]) : decode code pc = .ok (.iconst (-1), 1) := dk_of ((dk_bind (dk_u1 (h 0 _ rfl))).trans rfl)
theorem dk_3 {code : ByteArray} {pc : Nat} (h : DkAt code pc [3]) : decode code pc = .ok (.iconst 0, 1) := dk_of ((dk_bind (dk_u1 (h 0 _ rfl))).trans rfl)
theorem dk_4 {code : ByteArray} {pc : Nat} (h : DkAt code pc [4]) : decode code pc = .ok (.iconst 1, 1) := dk_of ((dk_bind (dk_u1 (h 0 _ rfl))).trans rfl)
theorem dk_5 {code : ByteArray} {pc : Nat} (h : DkAt code pc [5]) : decode code pc = .ok (.iconst 2, 1) := dk_of ((dk_bind (dk_u1 (h 0 _ rfl))).trans rfl)
theorem dk_6 {code : ByteArray} {pc : Nat} (h : DkAt code pc [6]) : decode code pc = .ok (.iconst 3, 1) := dk_of ((dk_bind (dk_u1 (h 0 _ rfl))).trans rfl)
theorem dk_7 {code : ByteArray} {pc : Nat} (h : DkAt code pc [7]) : decode code pc = .ok (.iconst 4, 1) := dk_of ((dk_bind (dk_u1 (h 0 _ rfl))).trans rfl)
theorem dk_8 {code : ByteArray} {pc : Nat} (h : DkAt code pc [8]) : decode code pc = .ok (.iconst 5, 1) := dk_of ((dk_bind (dk_u1 (h 0 _ rfl))).trans rfl)
theorem dk_16 {code : ByteArray} {pc : Nat} (a : UInt8) (h : DkAt code pc [16, a]) : decode code pc = .ok (.bipush (Reader.signed 8 a.toNat), 2) := dk_of ((dk_bind (dk_u1 (h 0 _ rfl))).trans ((dk_bind (dk_map (dk_u1 (h 1 _ rfl)))).trans rfl))
theorem dk_17 {code : ByteArray} {pc : Nat} (a b : UInt8) (h : DkAt code pc [17, a, b]) : decode code pc = .ok (.sipush (Reader.signed 16 (a.toNat * 256 + b.toNat)), 3) := dk_of ((dk_bind (dk_u1 (h 0 _ rfl))).trans ((dk_bind (dk_map (dk_u2 (h 1 _ rfl) (h 2 _ rfl)))).trans rfl))
theorem dk_18 {code : ByteArray} {pc : Nat} (a : UInt8) (h : DkAt code pc [18, a]) : decode code pc = .ok (.ldc a.toNat, 2) := dk_of ((dk_bind (dk_u1 (h 0 _ rfl))).trans ((dk_bind (dk_u1 (h 1 _ rfl))).trans rfl))
theorem dk_21 {code : ByteArray} {pc : Nat} (a : UInt8) (h : DkAt code pc [21, a]) : decode code pc = .ok (.iload a.toNat, 2) := dk_of ((dk_bind (dk_u1 (h 0 _ rfl))).trans ((dk_bind (dk_u1 (h 1 _ rfl))).trans rfl))
theorem dk_25 {code : ByteArray} {pc : Nat} (a : UInt8) (h : DkAt code pc [25, a]) : decode code pc = .ok (.aload a.toNat, 2) := dk_of ((dk_bind (dk_u1 (h 0 _ rfl))).trans ((dk_bind (dk_u1 (h 1 _ rfl))).trans rfl))
theorem dk_26 {code : ByteArray} {pc : Nat} (h : DkAt code pc [26]) : decode code pc = .ok (.iload_n 0, 1) := dk_of ((dk_bind (dk_u1 (h 0 _ rfl))).trans rfl)
theorem dk_27 {code : ByteArray} {pc : Nat} (h : DkAt code pc [27]) : decode code pc = .ok (.iload_n 1, 1) := dk_of ((dk_bind (dk_u1 (h 0 _ rfl))).trans rfl)
theorem dk_28 {code : ByteArray} {pc : Nat} (h : DkAt code pc [28]) : decode code pc = .ok (.iload_n 2, 1) := dk_of ((dk_bind (dk_u1 (h 0 _ rfl))).trans rfl)
theorem dk_29 {code : ByteArray} {pc : Nat} (h : DkAt code pc [29]) : decode code pc = .ok (.iload_n 3, 1) := dk_of ((dk_bind (dk_u1 (h 0 _ rfl))).trans rfl)
theorem dk_42 {code : ByteArray} {pc : Nat} (h : DkAt code pc [42]) : decode code pc = .ok (.aload_n 0, 1) := dk_of ((dk_bind (dk_u1 (h 0 _ rfl))).trans rfl)
theorem dk_43 {code : ByteArray} {pc : Nat} (h : DkAt code pc [43]) : decode code pc = .ok (.aload_n 1, 1) := dk_of ((dk_bind (dk_u1 (h 0 _ rfl))).trans rfl)
theorem dk_44 {code : ByteArray} {pc : Nat} (h : DkAt code pc [44]) : decode code pc = .ok (.aload_n 2, 1) := dk_of ((dk_bind (dk_u1 (h 0 _ rfl))).trans rfl)
theorem dk_45 {code : ByteArray} {pc : Nat} (h : DkAt code pc [45]) : decode code pc = .ok (.aload_n 3, 1) := dk_of ((dk_bind (dk_u1 (h 0 _ rfl))).trans rfl)
theorem dk_46 {code : ByteArray} {pc : Nat} (h : DkAt code pc [46]) : decode code pc = .ok (.iaload, 1) := dk_of ((dk_bind (dk_u1 (h 0 _ rfl))).trans rfl)
theorem dk_51 {code : ByteArray} {pc : Nat} (h : DkAt code pc [51]) : decode code pc = .ok (.baload, 1) := dk_of ((dk_bind (dk_u1 (h 0 _ rfl))).trans rfl)
theorem dk_52 {code : ByteArray} {pc : Nat} (h : DkAt code pc [52]) : decode code pc = .ok (.caload, 1) := dk_of ((dk_bind (dk_u1 (h 0 _ rfl))).trans rfl)
theorem dk_53 {code : ByteArray} {pc : Nat} (h : DkAt code pc [53]) : decode code pc = .ok (.saload, 1) := dk_of ((dk_bind (dk_u1 (h 0 _ rfl))).trans rfl)
theorem dk_54 {code : ByteArray} {pc : Nat} (a : UInt8) (h : DkAt code pc [54, a]) : decode code pc = .ok (.istore a.toNat, 2) := dk_of ((dk_bind (dk_u1 (h 0 _ rfl))).trans ((dk_bind (dk_u1 (h 1 _ rfl))).trans rfl))
theorem dk_58 {code : ByteArray} {pc : Nat} (a : UInt8) (h : DkAt code pc [58, a]) : decode code pc = .ok (.astore a.toNat, 2) := dk_of ((dk_bind (dk_u1 (h 0 _ rfl))).trans ((dk_bind (dk_u1 (h 1 _ rfl))).trans rfl))
theorem dk_60 {code : ByteArray} {pc : Nat} (h : DkAt code pc [60]) : decode code pc = .ok (.istore_n 1, 1) := dk_of ((dk_bind (dk_u1 (h 0 _ rfl))).trans rfl)
theorem dk_61 {code : ByteArray} {pc : Nat} (h : DkAt code pc [61]) : decode code pc = .ok (.istore_n 2, 1) := dk_of ((dk_bind (dk_u1 (h 0 _ rfl))).trans rfl)
theorem dk_62 {code : ByteArray} {pc : Nat} (h : DkAt code pc [62]) : decode code pc = .ok (.istore_n 3, 1) := dk_of ((dk_bind (dk_u1 (h 0 _ rfl))).trans rfl)
theorem dk_76 {code : ByteArray} {pc : Nat} (h : DkAt code pc [76]) : decode code pc = .ok (.astore_n 1, 1) := dk_of ((dk_bind (dk_u1 (h 0 _ rfl))).trans rfl)
theorem dk_77 {code : ByteArray} {pc : Nat} (h : DkAt code pc [77]) : decode code pc = .ok (.astore_n 2, 1) := dk_of ((dk_bind (dk_u1 (h 0 _ rfl))).trans rfl)
theorem dk_78 {code : ByteArray} {pc : Nat} (h : DkAt code pc [78]) : decode code pc = .ok (.astore_n 3, 1) := dk_of ((dk_bind (dk_u1 (h 0 _ rfl))).trans rfl)
theorem dk_79 {code : ByteArray} {pc : Nat} (h : DkAt code pc [79]) : decode code pc = .ok (.iastore, 1) := dk_of ((dk_bind (dk_u1 (h 0 _ rfl))).trans rfl)
theorem dk_84 {code : ByteArray} {pc : Nat} (h : DkAt code pc [84]) : decode code pc = .ok (.bastore, 1) := dk_of ((dk_bind (dk_u1 (h 0 _ rfl))).trans rfl)
theorem dk_85 {code : ByteArray} {pc : Nat} (h : DkAt code pc [85]) : decode code pc = .ok (.castore, 1) := dk_of ((dk_bind (dk_u1 (h 0 _ rfl))).trans rfl)
theorem dk_87 {code : ByteArray} {pc : Nat} (h : DkAt code pc [87]) : decode code pc = .ok (.pop, 1) := dk_of ((dk_bind (dk_u1 (h 0 _ rfl))).trans rfl)
theorem dk_89 {code : ByteArray} {pc : Nat} (h : DkAt code pc [89]) : decode code pc = .ok (.dup, 1) := dk_of ((dk_bind (dk_u1 (h 0 _ rfl))).trans rfl)
theorem dk_90 {code : ByteArray} {pc : Nat} (h : DkAt code pc [90]) : decode code pc = .ok (.dup_x1, 1) := dk_of ((dk_bind (dk_u1 (h 0 _ rfl))).trans rfl)
theorem dk_96 {code : ByteArray} {pc : Nat} (h : DkAt code pc [96]) : decode code pc = .ok (.iadd, 1) := dk_of ((dk_bind (dk_u1 (h 0 _ rfl))).trans rfl)
theorem dk_100 {code : ByteArray} {pc : Nat} (h : DkAt code pc [100]) : decode code pc = .ok (.isub, 1) := dk_of ((dk_bind (dk_u1 (h 0 _ rfl))).trans rfl)
theorem dk_104 {code : ByteArray} {pc : Nat} (h : DkAt code pc [104]) : decode code pc = .ok (.imul, 1) := dk_of ((dk_bind (dk_u1 (h 0 _ rfl))).trans rfl)
theorem dk_112 {code : ByteArray} {pc : Nat} (h : DkAt code pc [112]) : decode code pc = .ok (.irem, 1) := dk_of ((dk_bind (dk_u1 (h 0 _ rfl))).trans rfl)
theorem dk_120 {code : ByteArray} {pc : Nat} (h : DkAt code pc [120]) : decode code pc = .ok (.ishl, 1) := dk_of ((dk_bind (dk_u1 (h 0 _ rfl))).trans rfl)
theorem dk_122 {code : ByteArray} {pc : Nat} (h : DkAt code pc [122]) : decode code pc = .ok (.ishr, 1) := dk_of ((dk_bind (dk_u1 (h 0 _ rfl))).trans rfl)
theorem dk_124 {code : ByteArray} {pc : Nat} (h : DkAt code pc [124]) : decode code pc = .ok (.iushr, 1) := dk_of ((dk_bind (dk_u1 (h 0 _ rfl))).trans rfl)
theorem dk_126 {code : ByteArray} {pc : Nat} (h : DkAt code pc [126]) : decode code pc = .ok (.iand, 1) := dk_of ((dk_bind (dk_u1 (h 0 _ rfl))).trans rfl)
theorem dk_128 {code : ByteArray} {pc : Nat} (h : DkAt code pc [128]) : decode code pc = .ok (.ior, 1) := dk_of ((dk_bind (dk_u1 (h 0 _ rfl))).trans rfl)
theorem dk_132 {code : ByteArray} {pc : Nat} (a b : UInt8) (h : DkAt code pc [132, a, b]) : decode code pc = .ok (.iinc a.toNat (Reader.signed 8 b.toNat), 3) := dk_of ((dk_bind (dk_u1 (h 0 _ rfl))).trans ((dk_bind (dk_u1 (h 1 _ rfl))).trans ((dk_bind (dk_map (dk_u1 (h 2 _ rfl)))).trans rfl)))
theorem dk_145 {code : ByteArray} {pc : Nat} (h : DkAt code pc [145]) : decode code pc = .ok (.i2b, 1) := dk_of ((dk_bind (dk_u1 (h 0 _ rfl))).trans rfl)
theorem dk_146 {code : ByteArray} {pc : Nat} (h : DkAt code pc [146]) : decode code pc = .ok (.i2c, 1) := dk_of ((dk_bind (dk_u1 (h 0 _ rfl))).trans rfl)
theorem dk_153 {code : ByteArray} {pc : Nat} (a b : UInt8) (h : DkAt code pc [153, a, b]) : decode code pc = .ok (.ifCond .eq (Reader.signed 16 (a.toNat * 256 + b.toNat)), 3) := dk_of ((dk_bind (dk_u1 (h 0 _ rfl))).trans ((dk_bind (dk_map (dk_u2 (h 1 _ rfl) (h 2 _ rfl)))).trans rfl))
theorem dk_154 {code : ByteArray} {pc : Nat} (a b : UInt8) (h : DkAt code pc [154, a, b]) : decode code pc = .ok (.ifCond .ne (Reader.signed 16 (a.toNat * 256 + b.toNat)), 3) := dk_of ((dk_bind (dk_u1 (h 0 _ rfl))).trans ((dk_bind (dk_map (dk_u2 (h 1 _ rfl) (h 2 _ rfl)))).trans rfl))
theorem dk_155 {code : ByteArray} {pc : Nat} (a b : UInt8) (h : DkAt code pc [155, a, b]) : decode code pc = .ok (.ifCond .lt (Reader.signed 16 (a.toNat * 256 + b.toNat)), 3) := dk_of ((dk_bind (dk_u1 (h 0 _ rfl))).trans ((dk_bind (dk_map (dk_u2 (h 1 _ rfl) (h 2 _ rfl)))).trans rfl))
theorem dk_156 {code : ByteArray} {pc : Nat} (a b : UInt8) (h : DkAt code pc [156, a, b]) : decode code pc = .ok (.ifCond .ge (Reader.signed 16 (a.toNat * 256 + b.toNat)), 3) := dk_of ((dk_bind (dk_u1 (h 0 _ rfl))).trans ((dk_bind (dk_map (dk_u2 (h 1 _ rfl) (h 2 _ rfl)))).trans rfl))
theorem dk_157 {code : ByteArray} {pc : Nat} (a b : UInt8) (h : DkAt code pc [157, a, b]) : decode code pc = .ok (.ifCond .gt (Reader.signed 16 (a.toNat * 256 + b.toNat)), 3) := dk_of ((dk_bind (dk_u1 (h 0 _ rfl))).trans ((dk_bind (dk_map (dk_u2 (h 1 _ rfl) (h 2 _ rfl)))).trans rfl))
theorem dk_158 {code : ByteArray} {pc : Nat} (a b : UInt8) (h : DkAt code pc [158, a, b]) : decode code pc = .ok (.ifCond .le (Reader.signed 16 (a.toNat * 256 + b.toNat)), 3) := dk_of ((dk_bind (dk_u1 (h 0 _ rfl))).trans ((dk_bind (dk_map (dk_u2 (h 1 _ rfl) (h 2 _ rfl)))).trans rfl))
theorem dk_159 {code : ByteArray} {pc : Nat} (a b : UInt8) (h : DkAt code pc [159, a, b]) : decode code pc = .ok (.if_icmp .eq (Reader.signed 16 (a.toNat * 256 + b.toNat)), 3) := dk_of ((dk_bind (dk_u1 (h 0 _ rfl))).trans ((dk_bind (dk_map (dk_u2 (h 1 _ rfl) (h 2 _ rfl)))).trans rfl))
theorem dk_160 {code : ByteArray} {pc : Nat} (a b : UInt8) (h : DkAt code pc [160, a, b]) : decode code pc = .ok (.if_icmp .ne (Reader.signed 16 (a.toNat * 256 + b.toNat)), 3) := dk_of ((dk_bind (dk_u1 (h 0 _ rfl))).trans ((dk_bind (dk_map (dk_u2 (h 1 _ rfl) (h 2 _ rfl)))).trans rfl))
theorem dk_161 {code : ByteArray} {pc : Nat} (a b : UInt8) (h : DkAt code pc [161, a, b]) : decode code pc = .ok (.if_icmp .lt (Reader.signed 16 (a.toNat * 256 + b.toNat)), 3) := dk_of ((dk_bind (dk_u1 (h 0 _ rfl))).trans ((dk_bind (dk_map (dk_u2 (h 1 _ rfl) (h 2 _ rfl)))).trans rfl))
theorem dk_162 {code : ByteArray} {pc : Nat} (a b : UInt8) (h : DkAt code pc [162, a, b]) : decode code pc = .ok (.if_icmp .ge (Reader.signed 16 (a.toNat * 256 + b.toNat)), 3) := dk_of ((dk_bind (dk_u1 (h 0 _ rfl))).trans ((dk_bind (dk_map (dk_u2 (h 1 _ rfl) (h 2 _ rfl)))).trans rfl))
theorem dk_163 {code : ByteArray} {pc : Nat} (a b : UInt8) (h : DkAt code pc [163, a, b]) : decode code pc = .ok (.if_icmp .gt (Reader.signed 16 (a.toNat * 256 + b.toNat)), 3) := dk_of ((dk_bind (dk_u1 (h 0 _ rfl))).trans ((dk_bind (dk_map (dk_u2 (h 1 _ rfl) (h 2 _ rfl)))).trans rfl))
theorem dk_164 {code : ByteArray} {pc : Nat} (a b : UInt8) (h : DkAt code pc [164, a, b]) : decode code pc = .ok (.if_icmp .le (Reader.signed 16 (a.toNat * 256 + b.toNat)), 3) := dk_of ((dk_bind (dk_u1 (h 0 _ rfl))).trans ((dk_bind (dk_map (dk_u2 (h 1 _ rfl) (h 2 _ rfl)))).trans rfl))
theorem dk_167 {code : ByteArray} {pc : Nat} (a b : UInt8) (h : DkAt code pc [167, a, b]) : decode code pc = .ok (.goto (Reader.signed 16 (a.toNat * 256 + b.toNat)), 3) := dk_of ((dk_bind (dk_u1 (h 0 _ rfl))).trans ((dk_bind (dk_map (dk_u2 (h 1 _ rfl) (h 2 _ rfl)))).trans rfl))
theorem dk_172 {code : ByteArray} {pc : Nat} (h : DkAt code pc [172]) : decode code pc = .ok (.ireturn, 1) := dk_of ((dk_bind (dk_u1 (h 0 _ rfl))).trans rfl)
theorem dk_177 {code : ByteArray} {pc : Nat} (h : DkAt code pc [177]) : decode code pc = .ok (.return_, 1) := dk_of ((dk_bind (dk_u1 (h 0 _ rfl))).trans rfl)
theorem dk_178 {code : ByteArray} {pc : Nat} (a b : UInt8) (h : DkAt code pc [178, a, b]) : decode code pc = .ok (.getstatic (a.toNat * 256 + b.toNat), 3) := dk_of ((dk_bind (dk_u1 (h 0 _ rfl))).trans ((dk_bind (dk_u2 (h 1 _ rfl) (h 2 _ rfl))).trans rfl))
theorem dk_180 {code : ByteArray} {pc : Nat} (a b : UInt8) (h : DkAt code pc [180, a, b]) : decode code pc = .ok (.getfield (a.toNat * 256 + b.toNat), 3) := dk_of ((dk_bind (dk_u1 (h 0 _ rfl))).trans ((dk_bind (dk_u2 (h 1 _ rfl) (h 2 _ rfl))).trans rfl))
theorem dk_181 {code : ByteArray} {pc : Nat} (a b : UInt8) (h : DkAt code pc [181, a, b]) : decode code pc = .ok (.putfield (a.toNat * 256 + b.toNat), 3) := dk_of ((dk_bind (dk_u1 (h 0 _ rfl))).trans ((dk_bind (dk_u2 (h 1 _ rfl) (h 2 _ rfl))).trans rfl))
theorem dk_182 {code : ByteArray} {pc : Nat} (a b : UInt8) (h : DkAt code pc [182, a, b]) : decode code pc = .ok (.invokevirtual (a.toNat * 256 + b.toNat), 3) := dk_of ((dk_bind (dk_u1 (h 0 _ rfl))).trans ((dk_bind (dk_u2 (h 1 _ rfl) (h 2 _ rfl))).trans rfl))
theorem dk_183 {code : ByteArray} {pc : Nat} (a b : UInt8) (h : DkAt code pc [183, a, b]) : decode code pc = .ok (.invokespecial (a.toNat * 256 + b.toNat), 3) := dk_of ((dk_bind (dk_u1 (h 0 _ rfl))).trans ((dk_bind (dk_u2 (h 1 _ rfl) (h 2 _ rfl))).trans rfl))
theorem dk_184 {code : ByteArray} {pc : Nat} (a b : UInt8) (h : DkAt code pc [184, a, b]) : decode code pc = .ok (.invokestatic (a.toNat * 256 + b.toNat), 3) := dk_of ((dk_bind (dk_u1 (h 0 _ rfl))).trans ((dk_bind (dk_u2 (h 1 _ rfl) (h 2 _ rfl))).trans rfl))
theorem dk_187 {code : ByteArray} {pc : Nat} (a b : UInt8) (h : DkAt code pc [187, a, b]) : decode code pc = .ok (.new (a.toNat * 256 + b.toNat), 3) := dk_of ((dk_bind (dk_u1 (h 0 _ rfl))).trans ((dk_bind (dk_u2 (h 1 _ rfl) (h 2 _ rfl))).trans rfl))
theorem dk_188_5 {code : ByteArray} {pc : Nat} (h : DkAt code pc [188, 5]) : decode code pc = .ok (.newarray .char, 2) := dk_of ((dk_bind (dk_u1 (h 0 _ rfl))).trans ((dk_bind (dk_u1 (h 1 _ rfl))).trans rfl))
theorem dk_188_8 {code : ByteArray} {pc : Nat} (h : DkAt code pc [188, 8]) : decode code pc = .ok (.newarray .byte, 2) := dk_of ((dk_bind (dk_u1 (h 0 _ rfl))).trans ((dk_bind (dk_u1 (h 1 _ rfl))).trans rfl))
theorem dk_188_10 {code : ByteArray} {pc : Nat} (h : DkAt code pc [188, 10]) : decode code pc = .ok (.newarray .int, 2) := dk_of ((dk_bind (dk_u1 (h 0 _ rfl))).trans ((dk_bind (dk_u1 (h 1 _ rfl))).trans rfl))
theorem dk_190 {code : ByteArray} {pc : Nat} (h : DkAt code pc [190]) : decode code pc = .ok (.arraylength, 1) := dk_of ((dk_bind (dk_u1 (h 0 _ rfl))).trans rfl)
theorem q27 : (Jvm.Cond.arrayClass Jvm.ClassFile.FieldType.int) ∈ lw_all := lw_g (lw_at lw_m0 27 rfl) rfl
set_option maxRecDepth 100000
theorem q28 : (Jvm.Cond.arrayClass Jvm.ClassFile.FieldType.byte) ∈ lw_all := lw_g (lw_at lw_m0 28 rfl) rfl
theorem q29 : (Jvm.Cond.arrayClass Jvm.ClassFile.FieldType.char) ∈ lw_all := lw_g (lw_at lw_m0 29 rfl) rfl
theorem q96 : (Jvm.Cond.arrayClass Jvm.ClassFile.FieldType.short) ∈ lw_all := lw_g (lw_at lw_m0 96 rfl) rfl
/-! java/lang/Object -/
set_option maxRecDepth 100000
def RJ0 : String := "java/lang/Object"
abbrev cJ0_init : ByteArray := object_method_1_code
def yJ0_init : MethodName := ⟨RJ0, "<init>", "()V"⟩
theorem dJ0_init_0 : decode cJ0_init 0 = .ok (.return_, 1) := by decide +kernel
theorem q12 : (Jvm.Cond.instanceMethod ({ cls := "java/lang/Object", name := "<init>", desc := "()V" } : Jvm.MethodName)) ∈ lw_all := lw_g (lw_at lw_m0 12 rfl) rfl
theorem q13 : (Jvm.Cond.code ({ cls := "java/lang/Object", name := "<init>", desc := "()V" } : Jvm.MethodName) object_method_1_code (1 : Nat) (Option.none : Option Jvm.ClassFile.FieldType)) ∈ lw_all := lw_g (lw_at lw_m0 13 rfl) rfl
/-! UTF8 -/
set_option maxRecDepth 100000
def RX2 : String := "UTF8"
abbrev cX2_transcodeToUTF16 : ByteArray := prog_1_method_3_code
def yX2_transcodeToUTF16 : MethodName := ⟨RX2, "transcodeToUTF16", "([BII[C)I"⟩
def dkwX2_transcodeToUTF16_9 : List UInt8 := [85, 167, 255, 52, 21, 5, 172]
abbrev dktX2_transcodeToUTF16_9 : List UInt8 := dkwX2_transcodeToUTF16_9 ++ []
def dkwX2_transcodeToUTF16_8 : List UInt8 := [21, 9, 16, 10, 124, 96, 146, 85, 45, 21, 5, 132, 5, 1, 18, 19, 21, 9, 17, 3, 255, 126, 128, 146]
abbrev dktX2_transcodeToUTF16_8 : List UInt8 := dkwX2_transcodeToUTF16_8 ++ dktX2_transcodeToUTF16_9
def dkwX2_transcodeToUTF16_7 : List UInt8 := [146, 85, 167, 0, 47, 21, 5, 45, 190, 4, 100, 161, 0, 5, 2, 172, 45, 21, 5, 132, 5, 1, 18, 18]
abbrev dktX2_transcodeToUTF16_7 : List UInt8 := dkwX2_transcodeToUTF16_7 ++ dktX2_transcodeToUTF16_8
def dkwX2_transcodeToUTF16_6 : List UInt8 := [21, 9, 18, 17, 163, 0, 25, 21, 5, 45, 190, 161, 0, 5, 2, 172, 45, 21, 5, 132, 5, 1, 21, 9]
abbrev dktX2_transcodeToUTF16_6 : List UInt8 := dkwX2_transcodeToUTF16_6 ++ dktX2_transcodeToUTF16_7
def dkwX2_transcodeToUTF16_5 : List UInt8 := [21, 7, 17, 0, 255, 126, 7, 124, 96, 51, 54, 10, 167, 255, 203, 21, 10, 16, 254, 160, 0, 5, 2, 172]
abbrev dktX2_transcodeToUTF16_5 : List UInt8 := dkwX2_transcodeToUTF16_5 ++ dktX2_transcodeToUTF16_6
def dkwX2_transcodeToUTF16_4 : List UInt8 := [132, 4, 1, 51, 54, 7, 21, 9, 16, 6, 120, 21, 7, 16, 63, 126, 128, 54, 9, 178, 0, 13, 21, 10]
abbrev dktX2_transcodeToUTF16_4 : List UInt8 := dkwX2_transcodeToUTF16_4 ++ dktX2_transcodeToUTF16_5
def dkwX2_transcodeToUTF16_3 : List UInt8 := [54, 9, 21, 8, 145, 54, 10, 21, 10, 155, 0, 54, 21, 4, 21, 6, 161, 0, 5, 2, 172, 42, 21, 4]
abbrev dktX2_transcodeToUTF16_3 : List UInt8 := dkwX2_transcodeToUTF16_3 ++ dktX2_transcodeToUTF16_4
def dkwX2_transcodeToUTF16_2 : List UInt8 := [21, 7, 146, 85, 167, 255, 216, 178, 0, 7, 21, 7, 16, 127, 126, 53, 54, 8, 21, 8, 16, 8, 124]
abbrev dktX2_transcodeToUTF16_2 : List UInt8 := dkwX2_transcodeToUTF16_2 ++ dktX2_transcodeToUTF16_3
def dkwX2_transcodeToUTF16_1 : List UInt8 := [51, 54, 7, 21, 7, 155, 0, 25, 21, 5, 45, 190, 161, 0, 5, 2, 172, 45, 21, 5, 132, 5, 1]
abbrev dktX2_transcodeToUTF16_1 : List UInt8 := dkwX2_transcodeToUTF16_1 ++ dktX2_transcodeToUTF16_2
def dkwX2_transcodeToUTF16_0 : List UInt8 := [27, 54, 4, 3, 54, 5, 27, 28, 96, 54, 6, 21, 4, 21, 6, 162, 0, 203, 42, 21, 4, 132, 4, 1]
abbrev dktX2_transcodeToUTF16_0 : List UInt8 := dkwX2_transcodeToUTF16_0 ++ dktX2_transcodeToUTF16_1
theorem dksX2_transcodeToUTF16_0 : cX2_transcodeToUTF16.data.toList.drop 0 = dktX2_transcodeToUTF16_0 := by decide +kernel
theorem dksX2_transcodeToUTF16_1 : cX2_transcodeToUTF16.data.toList.drop 24 = dktX2_transcodeToUTF16_1 := dk_seg dksX2_transcodeToUTF16_0 24 rfl rfl
theorem dksX2_transcodeToUTF16_2 : cX2_transcodeToUTF16.data.toList.drop 47 = dktX2_transcodeToUTF16_2 := dk_seg dksX2_transcodeToUTF16_1 23 rfl rfl
theorem dksX2_transcodeToUTF16_3 : cX2_transcodeToUTF16.data.toList.drop 70 = dktX2_transcodeToUTF16_3 := dk_seg dksX2_transcodeToUTF16_2 23 rfl rfl
theorem dksX2_transcodeToUTF16_4 : cX2_transcodeToUTF16.data.toList.drop 94 = dktX2_transcodeToUTF16_4 := dk_seg dksX2_transcodeToUTF16_3 24 rfl rfl
theorem dksX2_transcodeToUTF16_5 : cX2_transcodeToUTF16.data.toList.drop 118 = dktX2_transcodeToUTF16_5 := dk_seg dksX2_transcodeToUTF16_4 24 rfl rfl
theorem dksX2_transcodeToUTF16_6 : cX2_transcodeToUTF16.data.toList.drop 142 = dktX2_transcodeToUTF16_6 := dk_seg dksX2_transcodeToUTF16_5 24 rfl rfl
theorem dksX2_transcodeToUTF16_7 : cX2_transcodeToUTF16.data.toList.drop 166 = dktX2_transcodeToUTF16_7 := dk_seg dksX2_transcodeToUTF16_6 24 rfl rfl
theorem dksX2_transcodeToUTF16_8 : cX2_transcodeToUTF16.data.toList.drop 190 = dktX2_transcodeToUTF16_8 := dk_seg dksX2_transcodeToUTF16_7 24 rfl rfl
theorem dksX2_transcodeToUTF16_9 : cX2_transcodeToUTF16.data.toList.drop 214 = dktX2_transcodeToUTF16_9 := dk_seg dksX2_transcodeToUTF16_8 24 rfl rfl
theorem dX2_transcodeToUTF16_0 : decode cX2_transcodeToUTF16 0 = .ok (.iload_n 1, 1) := dk_27 (dk_at dksX2_transcodeToUTF16_0 0 rfl rfl)
theorem dX2_transcodeToUTF16_1 : decode cX2_transcodeToUTF16 1 = .ok (.istore 4, 2) := dk_54 4 (dk_at dksX2_transcodeToUTF16_0 1 rfl rfl)
theorem dX2_transcodeToUTF16_3 : decode cX2_transcodeToUTF16 3 = .ok (.iconst 0, 1) := dk_3 (dk_at dksX2_transcodeToUTF16_0 3 rfl rfl)
theorem dX2_transcodeToUTF16_4 : decode cX2_transcodeToUTF16 4 = .ok (.istore 5, 2) := dk_54 5 (dk_at dksX2_transcodeToUTF16_0 4 rfl rfl)
theorem dX2_transcodeToUTF16_6 : decode cX2_transcodeToUTF16 6 = .ok (.iload_n 1, 1) := dk_27 (dk_at dksX2_transcodeToUTF16_0 6 rfl rfl)
theorem dX2_transcodeToUTF16_7 : decode cX2_transcodeToUTF16 7 = .ok (.iload_n 2, 1) := dk_28 (dk_at dksX2_transcodeToUTF16_0 7 rfl rfl)
theorem dX2_transcodeToUTF16_8 : decode cX2_transcodeToUTF16 8 = .ok (.iadd, 1) := dk_96 (dk_at dksX2_transcodeToUTF16_0 8 rfl rfl)
theorem dX2_transcodeToUTF16_9 : decode cX2_transcodeToUTF16 9 = .ok (.istore 6, 2) := dk_54 6 (dk_at dksX2_transcodeToUTF16_0 9 rfl rfl)
theorem dX2_transcodeToUTF16_11 : decode cX2_transcodeToUTF16 11 = .ok (.iload 4, 2) := dk_21 4 (dk_at dksX2_transcodeToUTF16_0 11 rfl rfl)
theorem dX2_transcodeToUTF16_13 : decode cX2_transcodeToUTF16 13 = .ok (.iload 6, 2) := dk_21 6 (dk_at dksX2_transcodeToUTF16_0 13 rfl rfl)
theorem dX2_transcodeToUTF16_15 : decode cX2_transcodeToUTF16 15 = .ok (.if_icmp .ge 203, 3) := dk_162 0 203 (dk_at dksX2_transcodeToUTF16_0 15 rfl rfl)
theorem dX2_transcodeToUTF16_18 : decode cX2_transcodeToUTF16 18 = .ok (.aload_n 0, 1) := dk_42 (dk_at dksX2_transcodeToUTF16_0 18 rfl rfl)
theorem dX2_transcodeToUTF16_19 : decode cX2_transcodeToUTF16 19 = .ok (.iload 4, 2) := dk_21 4 (dk_at dksX2_transcodeToUTF16_0 19 rfl rfl)
theorem dX2_transcodeToUTF16_21 : decode cX2_transcodeToUTF16 21 = .ok (.iinc 4 1, 3) := dk_132 4 1 (dk_at dksX2_transcodeToUTF16_0 21 rfl rfl)
theorem dX2_transcodeToUTF16_24 : decode cX2_transcodeToUTF16 24 = .ok (.baload, 1) := dk_51 (dk_at dksX2_transcodeToUTF16_1 0 rfl rfl)
theorem dX2_transcodeToUTF16_25 : decode cX2_transcodeToUTF16 25 = .ok (.istore 7, 2) := dk_54 7 (dk_at dksX2_transcodeToUTF16_1 1 rfl rfl)
theorem dX2_transcodeToUTF16_27 : decode cX2_transcodeToUTF16 27 = .ok (.iload 7, 2) := dk_21 7 (dk_at dksX2_transcodeToUTF16_1 3 rfl rfl)
theorem dX2_transcodeToUTF16_29 : decode cX2_transcodeToUTF16 29 = .ok (.ifCond .lt 25, 3) := dk_155 0 25 (dk_at dksX2_transcodeToUTF16_1 5 rfl rfl)
theorem dX2_transcodeToUTF16_32 : decode cX2_transcodeToUTF16 32 = .ok (.iload 5, 2) := dk_21 5 (dk_at dksX2_transcodeToUTF16_1 8 rfl rfl)
theorem dX2_transcodeToUTF16_34 : decode cX2_transcodeToUTF16 34 = .ok (.aload_n 3, 1) := dk_45 (dk_at dksX2_transcodeToUTF16_1 10 rfl rfl)
theorem dX2_transcodeToUTF16_35 : decode cX2_transcodeToUTF16 35 = .ok (.arraylength, 1) := dk_190 (dk_at dksX2_transcodeToUTF16_1 11 rfl rfl)
theorem dX2_transcodeToUTF16_36 : decode cX2_transcodeToUTF16 36 = .ok (.if_icmp .lt 5, 3) := dk_161 0 5 (dk_at dksX2_transcodeToUTF16_1 12 rfl rfl)
theorem dX2_transcodeToUTF16_39 : decode cX2_transcodeToUTF16 39 = .ok (.iconst (-1), 1) := dk_2 (dk_at dksX2_transcodeToUTF16_1 15 rfl rfl)
theorem dX2_transcodeToUTF16_40 : decode cX2_transcodeToUTF16 40 = .ok (.ireturn, 1) := dk_172 (dk_at dksX2_transcodeToUTF16_1 16 rfl rfl)
theorem dX2_transcodeToUTF16_41 : decode cX2_transcodeToUTF16 41 = .ok (.aload_n 3, 1) := dk_45 (dk_at dksX2_transcodeToUTF16_1 17 rfl rfl)
theorem dX2_transcodeToUTF16_42 : decode cX2_transcodeToUTF16 42 = .ok (.iload 5, 2) := dk_21 5 (dk_at dksX2_transcodeToUTF16_1 18 rfl rfl)
theorem dX2_transcodeToUTF16_44 : decode cX2_transcodeToUTF16 44 = .ok (.iinc 5 1, 3) := dk_132 5 1 (dk_at dksX2_transcodeToUTF16_1 20 rfl rfl)
theorem dX2_transcodeToUTF16_47 : decode cX2_transcodeToUTF16 47 = .ok (.iload 7, 2) := dk_21 7 (dk_at dksX2_transcodeToUTF16_2 0 rfl rfl)
theorem dX2_transcodeToUTF16_49 : decode cX2_transcodeToUTF16 49 = .ok (.i2c, 1) := dk_146 (dk_at dksX2_transcodeToUTF16_2 2 rfl rfl)
theorem dX2_transcodeToUTF16_50 : decode cX2_transcodeToUTF16 50 = .ok (.castore, 1) := dk_85 (dk_at dksX2_transcodeToUTF16_2 3 rfl rfl)
theorem dX2_transcodeToUTF16_51 : decode cX2_transcodeToUTF16 51 = .ok (.goto (-40), 3) := dk_167 255 216 (dk_at dksX2_transcodeToUTF16_2 4 rfl rfl)
theorem dX2_transcodeToUTF16_54 : decode cX2_transcodeToUTF16 54 = .ok (.getstatic 7, 3) := dk_178 0 7 (dk_at dksX2_transcodeToUTF16_2 7 rfl rfl)
theorem dX2_transcodeToUTF16_57 : decode cX2_transcodeToUTF16 57 = .ok (.iload 7, 2) := dk_21 7 (dk_at dksX2_transcodeToUTF16_2 10 rfl rfl)
theorem dX2_transcodeToUTF16_59 : decode cX2_transcodeToUTF16 59 = .ok (.bipush 127, 2) := dk_16 127 (dk_at dksX2_transcodeToUTF16_2 12 rfl rfl)
theorem dX2_transcodeToUTF16_61 : decode cX2_transcodeToUTF16 61 = .ok (.iand, 1) := dk_126 (dk_at dksX2_transcodeToUTF16_2 14 rfl rfl)
theorem dX2_transcodeToUTF16_62 : decode cX2_transcodeToUTF16 62 = .ok (.saload, 1) := dk_53 (dk_at dksX2_transcodeToUTF16_2 15 rfl rfl)
theorem dX2_transcodeToUTF16_63 : decode cX2_transcodeToUTF16 63 = .ok (.istore 8, 2) := dk_54 8 (dk_at dksX2_transcodeToUTF16_2 16 rfl rfl)
theorem dX2_transcodeToUTF16_65 : decode cX2_transcodeToUTF16 65 = .ok (.iload 8, 2) := dk_21 8 (dk_at dksX2_transcodeToUTF16_2 18 rfl rfl)
theorem dX2_transcodeToUTF16_67 : decode cX2_transcodeToUTF16 67 = .ok (.bipush 8, 2) := dk_16 8 (dk_at dksX2_transcodeToUTF16_2 20 rfl rfl)
theorem dX2_transcodeToUTF16_69 : decode cX2_transcodeToUTF16 69 = .ok (.iushr, 1) := dk_124 (dk_at dksX2_transcodeToUTF16_2 22 rfl rfl)
theorem dX2_transcodeToUTF16_70 : decode cX2_transcodeToUTF16 70 = .ok (.istore 9, 2) := dk_54 9 (dk_at dksX2_transcodeToUTF16_3 0 rfl rfl)
theorem dX2_transcodeToUTF16_72 : decode cX2_transcodeToUTF16 72 = .ok (.iload 8, 2) := dk_21 8 (dk_at dksX2_transcodeToUTF16_3 2 rfl rfl)
theorem dX2_transcodeToUTF16_74 : decode cX2_transcodeToUTF16 74 = .ok (.i2b, 1) := dk_145 (dk_at dksX2_transcodeToUTF16_3 4 rfl rfl)
theorem dX2_transcodeToUTF16_75 : decode cX2_transcodeToUTF16 75 = .ok (.istore 10, 2) := dk_54 10 (dk_at dksX2_transcodeToUTF16_3 5 rfl rfl)
theorem dX2_transcodeToUTF16_77 : decode cX2_transcodeToUTF16 77 = .ok (.iload 10, 2) := dk_21 10 (dk_at dksX2_transcodeToUTF16_3 7 rfl rfl)
theorem dX2_transcodeToUTF16_79 : decode cX2_transcodeToUTF16 79 = .ok (.ifCond .lt 54, 3) := dk_155 0 54 (dk_at dksX2_transcodeToUTF16_3 9 rfl rfl)
theorem dX2_transcodeToUTF16_82 : decode cX2_transcodeToUTF16 82 = .ok (.iload 4, 2) := dk_21 4 (dk_at dksX2_transcodeToUTF16_3 12 rfl rfl)
theorem dX2_transcodeToUTF16_84 : decode cX2_transcodeToUTF16 84 = .ok (.iload 6, 2) := dk_21 6 (dk_at dksX2_transcodeToUTF16_3 14 rfl rfl)
theorem dX2_transcodeToUTF16_86 : decode cX2_transcodeToUTF16 86 = .ok (.if_icmp .lt 5, 3) := dk_161 0 5 (dk_at dksX2_transcodeToUTF16_3 16 rfl rfl)
theorem dX2_transcodeToUTF16_89 : decode cX2_transcodeToUTF16 89 = .ok (.iconst (-1), 1) := dk_2 (dk_at dksX2_transcodeToUTF16_3 19 rfl rfl)
theorem dX2_transcodeToUTF16_90 : decode cX2_transcodeToUTF16 90 = .ok (.ireturn, 1) := dk_172 (dk_at dksX2_transcodeToUTF16_3 20 rfl rfl)
theorem dX2_transcodeToUTF16_91 : decode cX2_transcodeToUTF16 91 = .ok (.aload_n 0, 1) := dk_42 (dk_at dksX2_transcodeToUTF16_3 21 rfl rfl)
theorem dX2_transcodeToUTF16_92 : decode cX2_transcodeToUTF16 92 = .ok (.iload 4, 2) := dk_21 4 (dk_at dksX2_transcodeToUTF16_3 22 rfl rfl)
theorem dX2_transcodeToUTF16_94 : decode cX2_transcodeToUTF16 94 = .ok (.iinc 4 1, 3) := dk_132 4 1 (dk_at dksX2_transcodeToUTF16_4 0 rfl rfl)
theorem dX2_transcodeToUTF16_97 : decode cX2_transcodeToUTF16 97 = .ok (.baload, 1) := dk_51 (dk_at dksX2_transcodeToUTF16_4 3 rfl rfl)
theorem dX2_transcodeToUTF16_98 : decode cX2_transcodeToUTF16 98 = .ok (.istore 7, 2) := dk_54 7 (dk_at dksX2_transcodeToUTF16_4 4 rfl rfl)
theorem dX2_transcodeToUTF16_100 : decode cX2_transcodeToUTF16 100 = .ok (.iload 9, 2) := dk_21 9 (dk_at dksX2_transcodeToUTF16_4 6 rfl rfl)
theorem dX2_transcodeToUTF16_102 : decode cX2_transcodeToUTF16 102 = .ok (.bipush 6, 2) := dk_16 6 (dk_at dksX2_transcodeToUTF16_4 8 rfl rfl)
theorem dX2_transcodeToUTF16_104 : decode cX2_transcodeToUTF16 104 = .ok (.ishl, 1) := dk_120 (dk_at dksX2_transcodeToUTF16_4 10 rfl rfl)
theorem dX2_transcodeToUTF16_105 : decode cX2_transcodeToUTF16 105 = .ok (.iload 7, 2) := dk_21 7 (dk_at dksX2_transcodeToUTF16_4 11 rfl rfl)
theorem dX2_transcodeToUTF16_107 : decode cX2_transcodeToUTF16 107 = .ok (.bipush 63, 2) := dk_16 63 (dk_at dksX2_transcodeToUTF16_4 13 rfl rfl)
theorem dX2_transcodeToUTF16_109 : decode cX2_transcodeToUTF16 109 = .ok (.iand, 1) := dk_126 (dk_at dksX2_transcodeToUTF16_4 15 rfl rfl)
theorem dX2_transcodeToUTF16_110 : decode cX2_transcodeToUTF16 110 = .ok (.ior, 1) := dk_128 (dk_at dksX2_transcodeToUTF16_4 16 rfl rfl)
theorem dX2_transcodeToUTF16_111 : decode cX2_transcodeToUTF16 111 = .ok (.istore 9, 2) := dk_54 9 (dk_at dksX2_transcodeToUTF16_4 17 rfl rfl)
theorem dX2_transcodeToUTF16_113 : decode cX2_transcodeToUTF16 113 = .ok (.getstatic 13, 3) := dk_178 0 13 (dk_at dksX2_transcodeToUTF16_4 19 rfl rfl)
theorem dX2_transcodeToUTF16_116 : decode cX2_transcodeToUTF16 116 = .ok (.iload 10, 2) := dk_21 10 (dk_at dksX2_transcodeToUTF16_4 22 rfl rfl)
theorem dX2_transcodeToUTF16_118 : decode cX2_transcodeToUTF16 118 = .ok (.iload 7, 2) := dk_21 7 (dk_at dksX2_transcodeToUTF16_5 0 rfl rfl)
theorem dX2_transcodeToUTF16_120 : decode cX2_transcodeToUTF16 120 = .ok (.sipush 255, 3) := dk_17 0 255 (dk_at dksX2_transcodeToUTF16_5 2 rfl rfl)
theorem dX2_transcodeToUTF16_123 : decode cX2_transcodeToUTF16 123 = .ok (.iand, 1) := dk_126 (dk_at dksX2_transcodeToUTF16_5 5 rfl rfl)
theorem dX2_transcodeToUTF16_124 : decode cX2_transcodeToUTF16 124 = .ok (.iconst 4, 1) := dk_7 (dk_at dksX2_transcodeToUTF16_5 6 rfl rfl)
theorem dX2_transcodeToUTF16_125 : decode cX2_transcodeToUTF16 125 = .ok (.iushr, 1) := dk_124 (dk_at dksX2_transcodeToUTF16_5 7 rfl rfl)
theorem dX2_transcodeToUTF16_126 : decode cX2_transcodeToUTF16 126 = .ok (.iadd, 1) := dk_96 (dk_at dksX2_transcodeToUTF16_5 8 rfl rfl)
theorem dX2_transcodeToUTF16_127 : decode cX2_transcodeToUTF16 127 = .ok (.baload, 1) := dk_51 (dk_at dksX2_transcodeToUTF16_5 9 rfl rfl)
theorem dX2_transcodeToUTF16_128 : decode cX2_transcodeToUTF16 128 = .ok (.istore 10, 2) := dk_54 10 (dk_at dksX2_transcodeToUTF16_5 10 rfl rfl)
theorem dX2_transcodeToUTF16_130 : decode cX2_transcodeToUTF16 130 = .ok (.goto (-53), 3) := dk_167 255 203 (dk_at dksX2_transcodeToUTF16_5 12 rfl rfl)
theorem dX2_transcodeToUTF16_133 : decode cX2_transcodeToUTF16 133 = .ok (.iload 10, 2) := dk_21 10 (dk_at dksX2_transcodeToUTF16_5 15 rfl rfl)
theorem dX2_transcodeToUTF16_135 : decode cX2_transcodeToUTF16 135 = .ok (.bipush (-2), 2) := dk_16 254 (dk_at dksX2_transcodeToUTF16_5 17 rfl rfl)
theorem dX2_transcodeToUTF16_137 : decode cX2_transcodeToUTF16 137 = .ok (.if_icmp .ne 5, 3) := dk_160 0 5 (dk_at dksX2_transcodeToUTF16_5 19 rfl rfl)
theorem dX2_transcodeToUTF16_140 : decode cX2_transcodeToUTF16 140 = .ok (.iconst (-1), 1) := dk_2 (dk_at dksX2_transcodeToUTF16_5 22 rfl rfl)
theorem dX2_transcodeToUTF16_141 : decode cX2_transcodeToUTF16 141 = .ok (.ireturn, 1) := dk_172 (dk_at dksX2_transcodeToUTF16_5 23 rfl rfl)
theorem dX2_transcodeToUTF16_142 : decode cX2_transcodeToUTF16 142 = .ok (.iload 9, 2) := dk_21 9 (dk_at dksX2_transcodeToUTF16_6 0 rfl rfl)
theorem dX2_transcodeToUTF16_144 : decode cX2_transcodeToUTF16 144 = .ok (.ldc 17, 2) := dk_18 17 (dk_at dksX2_transcodeToUTF16_6 2 rfl rfl)
theorem dX2_transcodeToUTF16_146 : decode cX2_transcodeToUTF16 146 = .ok (.if_icmp .gt 25, 3) := dk_163 0 25 (dk_at dksX2_transcodeToUTF16_6 4 rfl rfl)
theorem dX2_transcodeToUTF16_149 : decode cX2_transcodeToUTF16 149 = .ok (.iload 5, 2) := dk_21 5 (dk_at dksX2_transcodeToUTF16_6 7 rfl rfl)
theorem dX2_transcodeToUTF16_151 : decode cX2_transcodeToUTF16 151 = .ok (.aload_n 3, 1) := dk_45 (dk_at dksX2_transcodeToUTF16_6 9 rfl rfl)
theorem dX2_transcodeToUTF16_152 : decode cX2_transcodeToUTF16 152 = .ok (.arraylength, 1) := dk_190 (dk_at dksX2_transcodeToUTF16_6 10 rfl rfl)
theorem dX2_transcodeToUTF16_153 : decode cX2_transcodeToUTF16 153 = .ok (.if_icmp .lt 5, 3) := dk_161 0 5 (dk_at dksX2_transcodeToUTF16_6 11 rfl rfl)
theorem dX2_transcodeToUTF16_156 : decode cX2_transcodeToUTF16 156 = .ok (.iconst (-1), 1) := dk_2 (dk_at dksX2_transcodeToUTF16_6 14 rfl rfl)
theorem dX2_transcodeToUTF16_157 : decode cX2_transcodeToUTF16 157 = .ok (.ireturn, 1) := dk_172 (dk_at dksX2_transcodeToUTF16_6 15 rfl rfl)
theorem dX2_transcodeToUTF16_158 : decode cX2_transcodeToUTF16 158 = .ok (.aload_n 3, 1) := dk_45 (dk_at dksX2_transcodeToUTF16_6 16 rfl rfl)
theorem dX2_transcodeToUTF16_159 : decode cX2_transcodeToUTF16 159 = .ok (.iload 5, 2) := dk_21 5 (dk_at dksX2_transcodeToUTF16_6 17 rfl rfl)
theorem dX2_transcodeToUTF16_161 : decode cX2_transcodeToUTF16 161 = .ok (.iinc 5 1, 3) := dk_132 5 1 (dk_at dksX2_transcodeToUTF16_6 19 rfl rfl)
theorem dX2_transcodeToUTF16_164 : decode cX2_transcodeToUTF16 164 = .ok (.iload 9, 2) := dk_21 9 (dk_at dksX2_transcodeToUTF16_6 22 rfl rfl)
theorem dX2_transcodeToUTF16_166 : decode cX2_transcodeToUTF16 166 = .ok (.i2c, 1) := dk_146 (dk_at dksX2_transcodeToUTF16_7 0 rfl rfl)
theorem dX2_transcodeToUTF16_167 : decode cX2_transcodeToUTF16 167 = .ok (.castore, 1) := dk_85 (dk_at dksX2_transcodeToUTF16_7 1 rfl rfl)
theorem dX2_transcodeToUTF16_168 : decode cX2_transcodeToUTF16 168 = .ok (.goto 47, 3) := dk_167 0 47 (dk_at dksX2_transcodeToUTF16_7 2 rfl rfl)
theorem dX2_transcodeToUTF16_171 : decode cX2_transcodeToUTF16 171 = .ok (.iload 5, 2) := dk_21 5 (dk_at dksX2_transcodeToUTF16_7 5 rfl rfl)
theorem dX2_transcodeToUTF16_173 : decode cX2_transcodeToUTF16 173 = .ok (.aload_n 3, 1) := dk_45 (dk_at dksX2_transcodeToUTF16_7 7 rfl rfl)
theorem dX2_transcodeToUTF16_174 : decode cX2_transcodeToUTF16 174 = .ok (.arraylength, 1) := dk_190 (dk_at dksX2_transcodeToUTF16_7 8 rfl rfl)
theorem dX2_transcodeToUTF16_175 : decode cX2_transcodeToUTF16 175 = .ok (.iconst 1, 1) := dk_4 (dk_at dksX2_transcodeToUTF16_7 9 rfl rfl)
theorem dX2_transcodeToUTF16_176 : decode cX2_transcodeToUTF16 176 = .ok (.isub, 1) := dk_100 (dk_at dksX2_transcodeToUTF16_7 10 rfl rfl)
theorem dX2_transcodeToUTF16_177 : decode cX2_transcodeToUTF16 177 = .ok (.if_icmp .lt 5, 3) := dk_161 0 5 (dk_at dksX2_transcodeToUTF16_7 11 rfl rfl)
theorem dX2_transcodeToUTF16_180 : decode cX2_transcodeToUTF16 180 = .ok (.iconst (-1), 1) := dk_2 (dk_at dksX2_transcodeToUTF16_7 14 rfl rfl)
theorem dX2_transcodeToUTF16_181 : decode cX2_transcodeToUTF16 181 = .ok (.ireturn, 1) := dk_172 (dk_at dksX2_transcodeToUTF16_7 15 rfl rfl)
theorem dX2_transcodeToUTF16_182 : decode cX2_transcodeToUTF16 182 = .ok (.aload_n 3, 1) := dk_45 (dk_at dksX2_transcodeToUTF16_7 16 rfl rfl)
theorem dX2_transcodeToUTF16_183 : decode cX2_transcodeToUTF16 183 = .ok (.iload 5, 2) := dk_21 5 (dk_at dksX2_transcodeToUTF16_7 17 rfl rfl)
theorem dX2_transcodeToUTF16_185 : decode cX2_transcodeToUTF16 185 = .ok (.iinc 5 1, 3) := dk_132 5 1 (dk_at dksX2_transcodeToUTF16_7 19 rfl rfl)
theorem dX2_transcodeToUTF16_188 : decode cX2_transcodeToUTF16 188 = .ok (.ldc 18, 2) := dk_18 18 (dk_at dksX2_transcodeToUTF16_7 22 rfl rfl)
theorem dX2_transcodeToUTF16_190 : decode cX2_transcodeToUTF16 190 = .ok (.iload 9, 2) := dk_21 9 (dk_at dksX2_transcodeToUTF16_8 0 rfl rfl)
theorem dX2_transcodeToUTF16_192 : decode cX2_transcodeToUTF16 192 = .ok (.bipush 10, 2) := dk_16 10 (dk_at dksX2_transcodeToUTF16_8 2 rfl rfl)
theorem dX2_transcodeToUTF16_194 : decode cX2_transcodeToUTF16 194 = .ok (.iushr, 1) := dk_124 (dk_at dksX2_transcodeToUTF16_8 4 rfl rfl)
theorem dX2_transcodeToUTF16_195 : decode cX2_transcodeToUTF16 195 = .ok (.iadd, 1) := dk_96 (dk_at dksX2_transcodeToUTF16_8 5 rfl rfl)
theorem dX2_transcodeToUTF16_196 : decode cX2_transcodeToUTF16 196 = .ok (.i2c, 1) := dk_146 (dk_at dksX2_transcodeToUTF16_8 6 rfl rfl)
theorem dX2_transcodeToUTF16_197 : decode cX2_transcodeToUTF16 197 = .ok (.castore, 1) := dk_85 (dk_at dksX2_transcodeToUTF16_8 7 rfl rfl)
theorem dX2_transcodeToUTF16_198 : decode cX2_transcodeToUTF16 198 = .ok (.aload_n 3, 1) := dk_45 (dk_at dksX2_transcodeToUTF16_8 8 rfl rfl)
theorem dX2_transcodeToUTF16_199 : decode cX2_transcodeToUTF16 199 = .ok (.iload 5, 2) := dk_21 5 (dk_at dksX2_transcodeToUTF16_8 9 rfl rfl)
theorem dX2_transcodeToUTF16_201 : decode cX2_transcodeToUTF16 201 = .ok (.iinc 5 1, 3) := dk_132 5 1 (dk_at dksX2_transcodeToUTF16_8 11 rfl rfl)
theorem dX2_transcodeToUTF16_204 : decode cX2_transcodeToUTF16 204 = .ok (.ldc 19, 2) := dk_18 19 (dk_at dksX2_transcodeToUTF16_8 14 rfl rfl)
theorem dX2_transcodeToUTF16_206 : decode cX2_transcodeToUTF16 206 = .ok (.iload 9, 2) := dk_21 9 (dk_at dksX2_transcodeToUTF16_8 16 rfl rfl)
theorem dX2_transcodeToUTF16_208 : decode cX2_transcodeToUTF16 208 = .ok (.sipush 1023, 3) := dk_17 3 255 (dk_at dksX2_transcodeToUTF16_8 18 rfl rfl)
theorem dX2_transcodeToUTF16_211 : decode cX2_transcodeToUTF16 211 = .ok (.iand, 1) := dk_126 (dk_at dksX2_transcodeToUTF16_8 21 rfl rfl)
theorem dX2_transcodeToUTF16_212 : decode cX2_transcodeToUTF16 212 = .ok (.ior, 1) := dk_128 (dk_at dksX2_transcodeToUTF16_8 22 rfl rfl)
theorem dX2_transcodeToUTF16_213 : decode cX2_transcodeToUTF16 213 = .ok (.i2c, 1) := dk_146 (dk_at dksX2_transcodeToUTF16_8 23 rfl rfl)
theorem dX2_transcodeToUTF16_214 : decode cX2_transcodeToUTF16 214 = .ok (.castore, 1) := dk_85 (dk_at dksX2_transcodeToUTF16_9 0 rfl rfl)
theorem dX2_transcodeToUTF16_215 : decode cX2_transcodeToUTF16 215 = .ok (.goto (-204), 3) := dk_167 255 52 (dk_at dksX2_transcodeToUTF16_9 1 rfl rfl)
theorem dX2_transcodeToUTF16_218 : decode cX2_transcodeToUTF16 218 = .ok (.iload 5, 2) := dk_21 5 (dk_at dksX2_transcodeToUTF16_9 4 rfl rfl)
theorem dX2_transcodeToUTF16_220 : decode cX2_transcodeToUTF16 220 = .ok (.ireturn, 1) := dk_172 (dk_at dksX2_transcodeToUTF16_9 6 rfl rfl)
theorem q2 : (Jvm.Cond.initialized "UTF8") ∈ lw_all := lw_g (lw_at lw_m0 2 rfl) rfl
theorem q55 : (Jvm.Cond.static ({ cls := "UTF8", name := "transcodeToUTF16", desc := "([BII[C)I" } : Jvm.MethodName)) ∈ lw_all := lw_g (lw_at lw_m0 55 rfl) rfl
theorem q56 : (Jvm.Cond.code ({ cls := "UTF8", name := "transcodeToUTF16", desc := "([BII[C)I" } : Jvm.MethodName) prog_1_method_3_code (11 : Nat) (Option.some Jvm.ClassFile.FieldType.int)) ∈ lw_all := lw_g (lw_at lw_m0 56 rfl) rfl
theorem q57 : (Jvm.Cond.fieldLink "UTF8" (7 : Nat) "UTF8" "firstUnitTable" "[S") ∈ lw_all := lw_g (lw_at lw_m0 57 rfl) rfl
theorem q58 : (Jvm.Cond.laysStatic "UTF8" "firstUnitTable" "[S") ∈ lw_tbl := lw_at lw_m0 58 rfl
theorem q59 : (Jvm.Cond.fieldLink "UTF8" (13 : Nat) "UTF8" "transitionTable" "[B") ∈ lw_all := lw_g (lw_at lw_m0 59 rfl) rfl
theorem q60 : (Jvm.Cond.laysStatic "UTF8" "transitionTable" "[B") ∈ lw_tbl := lw_at lw_m0 60 rfl
theorem q61 : (Jvm.Cond.constant "UTF8" (17 : Nat) (65535 : Int32)) ∈ lw_all := lw_g (lw_at lw_m0 61 rfl) rfl
theorem q62 : (Jvm.Cond.constant "UTF8" (18 : Nat) (55232 : Int32)) ∈ lw_all := lw_g (lw_at lw_m0 62 rfl) rfl
theorem q63 : (Jvm.Cond.constant "UTF8" (19 : Nat) (56320 : Int32)) ∈ lw_all := lw_g (lw_at lw_m0 63 rfl) rfl
/-! WireLetters -/
set_option maxRecDepth 100000
def RX1 : String := "WireLetters"
def TX1 : u_T := fun k => match k with
  | 0 => ("WireLetters", "text", "[B", true)
  | 1 => ("WireLetters", "letters", "[C", true)
  | 2 => ("WireLetters", "size", "I", false)
  | _ => ("WireLetters", "read", "I", false)
def tyX1 : Nat → FieldType := fun k => match k with
  | 0 => .array .byte
  | 1 => .array .char
  | 2 => .int
  | _ => .int
abbrev wsX10 : List Cond := u_ws RX1 TX1 4
theorem nmX1 : ∀ a, a < 4 → ∀ b, b < 4 → a ≠ b → (TX1 a).2.1 ≠ (TX1 b).2.1 := by decide +kernel
theorem tyX1_ok : ∀ k, k < 4 → parseFieldDescriptor (TX1 k).2.2.1 = some (tyX1 k) := by decide +kernel
abbrev cX1_init : ByteArray := prog_2_method_1_code
def yX1_init : MethodName := ⟨RX1, "<init>", "()V"⟩
def dkwX1_init_0 : List UInt8 := [42, 183, 0, 1, 42, 17, 4, 0, 188, 8, 181, 0, 7, 42, 17, 4, 0, 188, 5, 181, 0, 13, 177]
abbrev dktX1_init_0 : List UInt8 := dkwX1_init_0 ++ []
theorem dksX1_init_0 : cX1_init.data.toList.drop 0 = dktX1_init_0 := by decide +kernel
theorem dX1_init_0 : decode cX1_init 0 = .ok (.aload_n 0, 1) := dk_42 (dk_at dksX1_init_0 0 rfl rfl)
theorem dX1_init_1 : decode cX1_init 1 = .ok (.invokespecial 1, 3) := dk_183 0 1 (dk_at dksX1_init_0 1 rfl rfl)
theorem dX1_init_4 : decode cX1_init 4 = .ok (.aload_n 0, 1) := dk_42 (dk_at dksX1_init_0 4 rfl rfl)
theorem dX1_init_5 : decode cX1_init 5 = .ok (.sipush 1024, 3) := dk_17 4 0 (dk_at dksX1_init_0 5 rfl rfl)
theorem dX1_init_8 : decode cX1_init 8 = .ok (.newarray .byte, 2) := dk_188_8 (dk_at dksX1_init_0 8 rfl rfl)
theorem dX1_init_10 : decode cX1_init 10 = .ok (.putfield 7, 3) := dk_181 0 7 (dk_at dksX1_init_0 10 rfl rfl)
theorem dX1_init_13 : decode cX1_init 13 = .ok (.aload_n 0, 1) := dk_42 (dk_at dksX1_init_0 13 rfl rfl)
theorem dX1_init_14 : decode cX1_init 14 = .ok (.sipush 1024, 3) := dk_17 4 0 (dk_at dksX1_init_0 14 rfl rfl)
theorem dX1_init_17 : decode cX1_init 17 = .ok (.newarray .char, 2) := dk_188_5 (dk_at dksX1_init_0 17 rfl rfl)
theorem dX1_init_19 : decode cX1_init 19 = .ok (.putfield 13, 3) := dk_181 0 13 (dk_at dksX1_init_0 19 rfl rfl)
theorem dX1_init_22 : decode cX1_init 22 = .ok (.return_, 1) := dk_177 (dk_at dksX1_init_0 22 rfl rfl)
abbrev cX1_lay : ByteArray := prog_2_method_2_code
def yX1_lay : MethodName := ⟨RX1, "lay", "(I)I"⟩
def dkwX1_lay_12 : List UInt8 := [180, 0, 17, 90, 4, 96, 181, 0, 17, 17, 0, 128, 28, 16, 63, 126, 128, 145, 84, 42, 180, 0, 17, 172]
abbrev dktX1_lay_12 : List UInt8 := dkwX1_lay_12 ++ []
def dkwX1_lay_11 : List UInt8 := [181, 0, 17, 17, 0, 128, 28, 16, 6, 122, 16, 63, 126, 128, 145, 84, 42, 180, 0, 7, 42, 89]
abbrev dktX1_lay_11 : List UInt8 := dkwX1_lay_11 ++ dktX1_lay_12
def dkwX1_lay_10 : List UInt8 := [28, 16, 12, 122, 16, 63, 126, 128, 145, 84, 42, 180, 0, 7, 42, 89, 180, 0, 17, 90, 4, 96]
abbrev dktX1_lay_10 : List UInt8 := dkwX1_lay_10 ++ dktX1_lay_11
def dkwX1_lay_9 : List UInt8 := [16, 18, 122, 128, 145, 84, 42, 180, 0, 7, 42, 89, 180, 0, 17, 90, 4, 96, 181, 0, 17, 17, 0, 128]
abbrev dktX1_lay_9 : List UInt8 := dkwX1_lay_9 ++ dktX1_lay_10
def dkwX1_lay_8 : List UInt8 := [84, 167, 0, 109, 42, 180, 0, 7, 42, 89, 180, 0, 17, 90, 4, 96, 181, 0, 17, 17, 0, 240, 28]
abbrev dktX1_lay_8 : List UInt8 := dkwX1_lay_8 ++ dktX1_lay_9
def dkwX1_lay_7 : List UInt8 := [42, 180, 0, 7, 42, 89, 180, 0, 17, 90, 4, 96, 181, 0, 17, 17, 0, 128, 28, 16, 63, 126, 128, 145]
abbrev dktX1_lay_7 : List UInt8 := dkwX1_lay_7 ++ dktX1_lay_8
def dkwX1_lay_6 : List UInt8 := [42, 89, 180, 0, 17, 90, 4, 96, 181, 0, 17, 17, 0, 128, 28, 16, 6, 122, 16, 63, 126, 128, 145, 84]
abbrev dktX1_lay_6 : List UInt8 := dkwX1_lay_6 ++ dktX1_lay_7
def dkwX1_lay_5 : List UInt8 := [89, 180, 0, 17, 90, 4, 96, 181, 0, 17, 17, 0, 224, 28, 16, 12, 122, 128, 145, 84, 42, 180, 0, 7]
abbrev dktX1_lay_5 : List UInt8 := dkwX1_lay_5 ++ dktX1_lay_6
def dkwX1_lay_4 : List UInt8 := [17, 0, 128, 28, 16, 63, 126, 128, 145, 84, 167, 0, 196, 28, 18, 22, 162, 0, 84, 42, 180, 0, 7, 42]
abbrev dktX1_lay_4 : List UInt8 := dkwX1_lay_4 ++ dktX1_lay_5
def dkwX1_lay_3 : List UInt8 := [28, 16, 6, 122, 128, 145, 84, 42, 180, 0, 7, 42, 89, 180, 0, 17, 90, 4, 96, 181, 0, 17]
abbrev dktX1_lay_3 : List UInt8 := dkwX1_lay_3 ++ dktX1_lay_4
def dkwX1_lay_2 : List UInt8 := [17, 8, 0, 162, 0, 56, 42, 180, 0, 7, 42, 89, 180, 0, 17, 90, 4, 96, 181, 0, 17, 17, 0, 192]
abbrev dktX1_lay_2 : List UInt8 := dkwX1_lay_2 ++ dktX1_lay_3
def dkwX1_lay_1 : List UInt8 := [42, 180, 0, 7, 42, 89, 180, 0, 17, 90, 4, 96, 181, 0, 17, 28, 145, 84, 167, 1, 0, 28]
abbrev dktX1_lay_1 : List UInt8 := dkwX1_lay_1 ++ dktX1_lay_2
def dkwX1_lay_0 : List UInt8 := [42, 180, 0, 17, 17, 3, 252, 164, 0, 5, 2, 172, 27, 18, 21, 126, 61, 28, 17, 0, 128, 162, 0, 24]
abbrev dktX1_lay_0 : List UInt8 := dkwX1_lay_0 ++ dktX1_lay_1
theorem dksX1_lay_0 : cX1_lay.data.toList.drop 0 = dktX1_lay_0 := by decide +kernel
theorem dksX1_lay_1 : cX1_lay.data.toList.drop 24 = dktX1_lay_1 := dk_seg dksX1_lay_0 24 rfl rfl
theorem dksX1_lay_2 : cX1_lay.data.toList.drop 46 = dktX1_lay_2 := dk_seg dksX1_lay_1 22 rfl rfl
theorem dksX1_lay_3 : cX1_lay.data.toList.drop 70 = dktX1_lay_3 := dk_seg dksX1_lay_2 24 rfl rfl
theorem dksX1_lay_4 : cX1_lay.data.toList.drop 92 = dktX1_lay_4 := dk_seg dksX1_lay_3 22 rfl rfl
theorem dksX1_lay_5 : cX1_lay.data.toList.drop 116 = dktX1_lay_5 := dk_seg dksX1_lay_4 24 rfl rfl
theorem dksX1_lay_6 : cX1_lay.data.toList.drop 140 = dktX1_lay_6 := dk_seg dksX1_lay_5 24 rfl rfl
theorem dksX1_lay_7 : cX1_lay.data.toList.drop 164 = dktX1_lay_7 := dk_seg dksX1_lay_6 24 rfl rfl
theorem dksX1_lay_8 : cX1_lay.data.toList.drop 188 = dktX1_lay_8 := dk_seg dksX1_lay_7 24 rfl rfl
theorem dksX1_lay_9 : cX1_lay.data.toList.drop 211 = dktX1_lay_9 := dk_seg dksX1_lay_8 23 rfl rfl
theorem dksX1_lay_10 : cX1_lay.data.toList.drop 235 = dktX1_lay_10 := dk_seg dksX1_lay_9 24 rfl rfl
theorem dksX1_lay_11 : cX1_lay.data.toList.drop 257 = dktX1_lay_11 := dk_seg dksX1_lay_10 22 rfl rfl
theorem dksX1_lay_12 : cX1_lay.data.toList.drop 279 = dktX1_lay_12 := dk_seg dksX1_lay_11 22 rfl rfl
theorem dX1_lay_0 : decode cX1_lay 0 = .ok (.aload_n 0, 1) := dk_42 (dk_at dksX1_lay_0 0 rfl rfl)
theorem dX1_lay_1 : decode cX1_lay 1 = .ok (.getfield 17, 3) := dk_180 0 17 (dk_at dksX1_lay_0 1 rfl rfl)
theorem dX1_lay_4 : decode cX1_lay 4 = .ok (.sipush 1020, 3) := dk_17 3 252 (dk_at dksX1_lay_0 4 rfl rfl)
theorem dX1_lay_7 : decode cX1_lay 7 = .ok (.if_icmp .le 5, 3) := dk_164 0 5 (dk_at dksX1_lay_0 7 rfl rfl)
theorem dX1_lay_10 : decode cX1_lay 10 = .ok (.iconst (-1), 1) := dk_2 (dk_at dksX1_lay_0 10 rfl rfl)
theorem dX1_lay_11 : decode cX1_lay 11 = .ok (.ireturn, 1) := dk_172 (dk_at dksX1_lay_0 11 rfl rfl)
theorem dX1_lay_12 : decode cX1_lay 12 = .ok (.iload_n 1, 1) := dk_27 (dk_at dksX1_lay_0 12 rfl rfl)
theorem dX1_lay_13 : decode cX1_lay 13 = .ok (.ldc 21, 2) := dk_18 21 (dk_at dksX1_lay_0 13 rfl rfl)
theorem dX1_lay_15 : decode cX1_lay 15 = .ok (.iand, 1) := dk_126 (dk_at dksX1_lay_0 15 rfl rfl)
theorem dX1_lay_16 : decode cX1_lay 16 = .ok (.istore_n 2, 1) := dk_61 (dk_at dksX1_lay_0 16 rfl rfl)
theorem dX1_lay_17 : decode cX1_lay 17 = .ok (.iload_n 2, 1) := dk_28 (dk_at dksX1_lay_0 17 rfl rfl)
theorem dX1_lay_18 : decode cX1_lay 18 = .ok (.sipush 128, 3) := dk_17 0 128 (dk_at dksX1_lay_0 18 rfl rfl)
theorem dX1_lay_21 : decode cX1_lay 21 = .ok (.if_icmp .ge 24, 3) := dk_162 0 24 (dk_at dksX1_lay_0 21 rfl rfl)
theorem dX1_lay_24 : decode cX1_lay 24 = .ok (.aload_n 0, 1) := dk_42 (dk_at dksX1_lay_1 0 rfl rfl)
theorem dX1_lay_25 : decode cX1_lay 25 = .ok (.getfield 7, 3) := dk_180 0 7 (dk_at dksX1_lay_1 1 rfl rfl)
theorem dX1_lay_28 : decode cX1_lay 28 = .ok (.aload_n 0, 1) := dk_42 (dk_at dksX1_lay_1 4 rfl rfl)
theorem dX1_lay_29 : decode cX1_lay 29 = .ok (.dup, 1) := dk_89 (dk_at dksX1_lay_1 5 rfl rfl)
theorem dX1_lay_30 : decode cX1_lay 30 = .ok (.getfield 17, 3) := dk_180 0 17 (dk_at dksX1_lay_1 6 rfl rfl)
theorem dX1_lay_33 : decode cX1_lay 33 = .ok (.dup_x1, 1) := dk_90 (dk_at dksX1_lay_1 9 rfl rfl)
theorem dX1_lay_34 : decode cX1_lay 34 = .ok (.iconst 1, 1) := dk_4 (dk_at dksX1_lay_1 10 rfl rfl)
theorem dX1_lay_35 : decode cX1_lay 35 = .ok (.iadd, 1) := dk_96 (dk_at dksX1_lay_1 11 rfl rfl)
theorem dX1_lay_36 : decode cX1_lay 36 = .ok (.putfield 17, 3) := dk_181 0 17 (dk_at dksX1_lay_1 12 rfl rfl)
theorem dX1_lay_39 : decode cX1_lay 39 = .ok (.iload_n 2, 1) := dk_28 (dk_at dksX1_lay_1 15 rfl rfl)
theorem dX1_lay_40 : decode cX1_lay 40 = .ok (.i2b, 1) := dk_145 (dk_at dksX1_lay_1 16 rfl rfl)
theorem dX1_lay_41 : decode cX1_lay 41 = .ok (.bastore, 1) := dk_84 (dk_at dksX1_lay_1 17 rfl rfl)
theorem dX1_lay_42 : decode cX1_lay 42 = .ok (.goto 256, 3) := dk_167 1 0 (dk_at dksX1_lay_1 18 rfl rfl)
theorem dX1_lay_45 : decode cX1_lay 45 = .ok (.iload_n 2, 1) := dk_28 (dk_at dksX1_lay_1 21 rfl rfl)
theorem dX1_lay_46 : decode cX1_lay 46 = .ok (.sipush 2048, 3) := dk_17 8 0 (dk_at dksX1_lay_2 0 rfl rfl)
theorem dX1_lay_49 : decode cX1_lay 49 = .ok (.if_icmp .ge 56, 3) := dk_162 0 56 (dk_at dksX1_lay_2 3 rfl rfl)
theorem dX1_lay_52 : decode cX1_lay 52 = .ok (.aload_n 0, 1) := dk_42 (dk_at dksX1_lay_2 6 rfl rfl)
theorem dX1_lay_53 : decode cX1_lay 53 = .ok (.getfield 7, 3) := dk_180 0 7 (dk_at dksX1_lay_2 7 rfl rfl)
theorem dX1_lay_56 : decode cX1_lay 56 = .ok (.aload_n 0, 1) := dk_42 (dk_at dksX1_lay_2 10 rfl rfl)
theorem dX1_lay_57 : decode cX1_lay 57 = .ok (.dup, 1) := dk_89 (dk_at dksX1_lay_2 11 rfl rfl)
theorem dX1_lay_58 : decode cX1_lay 58 = .ok (.getfield 17, 3) := dk_180 0 17 (dk_at dksX1_lay_2 12 rfl rfl)
theorem dX1_lay_61 : decode cX1_lay 61 = .ok (.dup_x1, 1) := dk_90 (dk_at dksX1_lay_2 15 rfl rfl)
theorem dX1_lay_62 : decode cX1_lay 62 = .ok (.iconst 1, 1) := dk_4 (dk_at dksX1_lay_2 16 rfl rfl)
theorem dX1_lay_63 : decode cX1_lay 63 = .ok (.iadd, 1) := dk_96 (dk_at dksX1_lay_2 17 rfl rfl)
theorem dX1_lay_64 : decode cX1_lay 64 = .ok (.putfield 17, 3) := dk_181 0 17 (dk_at dksX1_lay_2 18 rfl rfl)
theorem dX1_lay_67 : decode cX1_lay 67 = .ok (.sipush 192, 3) := dk_17 0 192 (dk_at dksX1_lay_2 21 rfl rfl)
theorem dX1_lay_70 : decode cX1_lay 70 = .ok (.iload_n 2, 1) := dk_28 (dk_at dksX1_lay_3 0 rfl rfl)
theorem dX1_lay_71 : decode cX1_lay 71 = .ok (.bipush 6, 2) := dk_16 6 (dk_at dksX1_lay_3 1 rfl rfl)
theorem dX1_lay_73 : decode cX1_lay 73 = .ok (.ishr, 1) := dk_122 (dk_at dksX1_lay_3 3 rfl rfl)
theorem dX1_lay_74 : decode cX1_lay 74 = .ok (.ior, 1) := dk_128 (dk_at dksX1_lay_3 4 rfl rfl)
theorem dX1_lay_75 : decode cX1_lay 75 = .ok (.i2b, 1) := dk_145 (dk_at dksX1_lay_3 5 rfl rfl)
theorem dX1_lay_76 : decode cX1_lay 76 = .ok (.bastore, 1) := dk_84 (dk_at dksX1_lay_3 6 rfl rfl)
theorem dX1_lay_77 : decode cX1_lay 77 = .ok (.aload_n 0, 1) := dk_42 (dk_at dksX1_lay_3 7 rfl rfl)
theorem dX1_lay_78 : decode cX1_lay 78 = .ok (.getfield 7, 3) := dk_180 0 7 (dk_at dksX1_lay_3 8 rfl rfl)
theorem dX1_lay_81 : decode cX1_lay 81 = .ok (.aload_n 0, 1) := dk_42 (dk_at dksX1_lay_3 11 rfl rfl)
theorem dX1_lay_82 : decode cX1_lay 82 = .ok (.dup, 1) := dk_89 (dk_at dksX1_lay_3 12 rfl rfl)
theorem dX1_lay_83 : decode cX1_lay 83 = .ok (.getfield 17, 3) := dk_180 0 17 (dk_at dksX1_lay_3 13 rfl rfl)
theorem dX1_lay_86 : decode cX1_lay 86 = .ok (.dup_x1, 1) := dk_90 (dk_at dksX1_lay_3 16 rfl rfl)
theorem dX1_lay_87 : decode cX1_lay 87 = .ok (.iconst 1, 1) := dk_4 (dk_at dksX1_lay_3 17 rfl rfl)
theorem dX1_lay_88 : decode cX1_lay 88 = .ok (.iadd, 1) := dk_96 (dk_at dksX1_lay_3 18 rfl rfl)
theorem dX1_lay_89 : decode cX1_lay 89 = .ok (.putfield 17, 3) := dk_181 0 17 (dk_at dksX1_lay_3 19 rfl rfl)
theorem dX1_lay_92 : decode cX1_lay 92 = .ok (.sipush 128, 3) := dk_17 0 128 (dk_at dksX1_lay_4 0 rfl rfl)
theorem dX1_lay_95 : decode cX1_lay 95 = .ok (.iload_n 2, 1) := dk_28 (dk_at dksX1_lay_4 3 rfl rfl)
theorem dX1_lay_96 : decode cX1_lay 96 = .ok (.bipush 63, 2) := dk_16 63 (dk_at dksX1_lay_4 4 rfl rfl)
theorem dX1_lay_98 : decode cX1_lay 98 = .ok (.iand, 1) := dk_126 (dk_at dksX1_lay_4 6 rfl rfl)
theorem dX1_lay_99 : decode cX1_lay 99 = .ok (.ior, 1) := dk_128 (dk_at dksX1_lay_4 7 rfl rfl)
theorem dX1_lay_100 : decode cX1_lay 100 = .ok (.i2b, 1) := dk_145 (dk_at dksX1_lay_4 8 rfl rfl)
theorem dX1_lay_101 : decode cX1_lay 101 = .ok (.bastore, 1) := dk_84 (dk_at dksX1_lay_4 9 rfl rfl)
theorem dX1_lay_102 : decode cX1_lay 102 = .ok (.goto 196, 3) := dk_167 0 196 (dk_at dksX1_lay_4 10 rfl rfl)
theorem dX1_lay_105 : decode cX1_lay 105 = .ok (.iload_n 2, 1) := dk_28 (dk_at dksX1_lay_4 13 rfl rfl)
theorem dX1_lay_106 : decode cX1_lay 106 = .ok (.ldc 22, 2) := dk_18 22 (dk_at dksX1_lay_4 14 rfl rfl)
theorem dX1_lay_108 : decode cX1_lay 108 = .ok (.if_icmp .ge 84, 3) := dk_162 0 84 (dk_at dksX1_lay_4 16 rfl rfl)
theorem dX1_lay_111 : decode cX1_lay 111 = .ok (.aload_n 0, 1) := dk_42 (dk_at dksX1_lay_4 19 rfl rfl)
theorem dX1_lay_112 : decode cX1_lay 112 = .ok (.getfield 7, 3) := dk_180 0 7 (dk_at dksX1_lay_4 20 rfl rfl)
theorem dX1_lay_115 : decode cX1_lay 115 = .ok (.aload_n 0, 1) := dk_42 (dk_at dksX1_lay_4 23 rfl rfl)
theorem dX1_lay_116 : decode cX1_lay 116 = .ok (.dup, 1) := dk_89 (dk_at dksX1_lay_5 0 rfl rfl)
theorem dX1_lay_117 : decode cX1_lay 117 = .ok (.getfield 17, 3) := dk_180 0 17 (dk_at dksX1_lay_5 1 rfl rfl)
theorem dX1_lay_120 : decode cX1_lay 120 = .ok (.dup_x1, 1) := dk_90 (dk_at dksX1_lay_5 4 rfl rfl)
theorem dX1_lay_121 : decode cX1_lay 121 = .ok (.iconst 1, 1) := dk_4 (dk_at dksX1_lay_5 5 rfl rfl)
theorem dX1_lay_122 : decode cX1_lay 122 = .ok (.iadd, 1) := dk_96 (dk_at dksX1_lay_5 6 rfl rfl)
theorem dX1_lay_123 : decode cX1_lay 123 = .ok (.putfield 17, 3) := dk_181 0 17 (dk_at dksX1_lay_5 7 rfl rfl)
theorem dX1_lay_126 : decode cX1_lay 126 = .ok (.sipush 224, 3) := dk_17 0 224 (dk_at dksX1_lay_5 10 rfl rfl)
theorem dX1_lay_129 : decode cX1_lay 129 = .ok (.iload_n 2, 1) := dk_28 (dk_at dksX1_lay_5 13 rfl rfl)
theorem dX1_lay_130 : decode cX1_lay 130 = .ok (.bipush 12, 2) := dk_16 12 (dk_at dksX1_lay_5 14 rfl rfl)
theorem dX1_lay_132 : decode cX1_lay 132 = .ok (.ishr, 1) := dk_122 (dk_at dksX1_lay_5 16 rfl rfl)
theorem dX1_lay_133 : decode cX1_lay 133 = .ok (.ior, 1) := dk_128 (dk_at dksX1_lay_5 17 rfl rfl)
theorem dX1_lay_134 : decode cX1_lay 134 = .ok (.i2b, 1) := dk_145 (dk_at dksX1_lay_5 18 rfl rfl)
theorem dX1_lay_135 : decode cX1_lay 135 = .ok (.bastore, 1) := dk_84 (dk_at dksX1_lay_5 19 rfl rfl)
theorem dX1_lay_136 : decode cX1_lay 136 = .ok (.aload_n 0, 1) := dk_42 (dk_at dksX1_lay_5 20 rfl rfl)
theorem dX1_lay_137 : decode cX1_lay 137 = .ok (.getfield 7, 3) := dk_180 0 7 (dk_at dksX1_lay_5 21 rfl rfl)
theorem dX1_lay_140 : decode cX1_lay 140 = .ok (.aload_n 0, 1) := dk_42 (dk_at dksX1_lay_6 0 rfl rfl)
theorem dX1_lay_141 : decode cX1_lay 141 = .ok (.dup, 1) := dk_89 (dk_at dksX1_lay_6 1 rfl rfl)
theorem dX1_lay_142 : decode cX1_lay 142 = .ok (.getfield 17, 3) := dk_180 0 17 (dk_at dksX1_lay_6 2 rfl rfl)
theorem dX1_lay_145 : decode cX1_lay 145 = .ok (.dup_x1, 1) := dk_90 (dk_at dksX1_lay_6 5 rfl rfl)
theorem dX1_lay_146 : decode cX1_lay 146 = .ok (.iconst 1, 1) := dk_4 (dk_at dksX1_lay_6 6 rfl rfl)
theorem dX1_lay_147 : decode cX1_lay 147 = .ok (.iadd, 1) := dk_96 (dk_at dksX1_lay_6 7 rfl rfl)
theorem dX1_lay_148 : decode cX1_lay 148 = .ok (.putfield 17, 3) := dk_181 0 17 (dk_at dksX1_lay_6 8 rfl rfl)
theorem dX1_lay_151 : decode cX1_lay 151 = .ok (.sipush 128, 3) := dk_17 0 128 (dk_at dksX1_lay_6 11 rfl rfl)
theorem dX1_lay_154 : decode cX1_lay 154 = .ok (.iload_n 2, 1) := dk_28 (dk_at dksX1_lay_6 14 rfl rfl)
theorem dX1_lay_155 : decode cX1_lay 155 = .ok (.bipush 6, 2) := dk_16 6 (dk_at dksX1_lay_6 15 rfl rfl)
theorem dX1_lay_157 : decode cX1_lay 157 = .ok (.ishr, 1) := dk_122 (dk_at dksX1_lay_6 17 rfl rfl)
theorem dX1_lay_158 : decode cX1_lay 158 = .ok (.bipush 63, 2) := dk_16 63 (dk_at dksX1_lay_6 18 rfl rfl)
theorem dX1_lay_160 : decode cX1_lay 160 = .ok (.iand, 1) := dk_126 (dk_at dksX1_lay_6 20 rfl rfl)
theorem dX1_lay_161 : decode cX1_lay 161 = .ok (.ior, 1) := dk_128 (dk_at dksX1_lay_6 21 rfl rfl)
theorem dX1_lay_162 : decode cX1_lay 162 = .ok (.i2b, 1) := dk_145 (dk_at dksX1_lay_6 22 rfl rfl)
theorem dX1_lay_163 : decode cX1_lay 163 = .ok (.bastore, 1) := dk_84 (dk_at dksX1_lay_6 23 rfl rfl)
theorem dX1_lay_164 : decode cX1_lay 164 = .ok (.aload_n 0, 1) := dk_42 (dk_at dksX1_lay_7 0 rfl rfl)
theorem dX1_lay_165 : decode cX1_lay 165 = .ok (.getfield 7, 3) := dk_180 0 7 (dk_at dksX1_lay_7 1 rfl rfl)
theorem dX1_lay_168 : decode cX1_lay 168 = .ok (.aload_n 0, 1) := dk_42 (dk_at dksX1_lay_7 4 rfl rfl)
theorem dX1_lay_169 : decode cX1_lay 169 = .ok (.dup, 1) := dk_89 (dk_at dksX1_lay_7 5 rfl rfl)
theorem dX1_lay_170 : decode cX1_lay 170 = .ok (.getfield 17, 3) := dk_180 0 17 (dk_at dksX1_lay_7 6 rfl rfl)
theorem dX1_lay_173 : decode cX1_lay 173 = .ok (.dup_x1, 1) := dk_90 (dk_at dksX1_lay_7 9 rfl rfl)
theorem dX1_lay_174 : decode cX1_lay 174 = .ok (.iconst 1, 1) := dk_4 (dk_at dksX1_lay_7 10 rfl rfl)
theorem dX1_lay_175 : decode cX1_lay 175 = .ok (.iadd, 1) := dk_96 (dk_at dksX1_lay_7 11 rfl rfl)
theorem dX1_lay_176 : decode cX1_lay 176 = .ok (.putfield 17, 3) := dk_181 0 17 (dk_at dksX1_lay_7 12 rfl rfl)
theorem dX1_lay_179 : decode cX1_lay 179 = .ok (.sipush 128, 3) := dk_17 0 128 (dk_at dksX1_lay_7 15 rfl rfl)
theorem dX1_lay_182 : decode cX1_lay 182 = .ok (.iload_n 2, 1) := dk_28 (dk_at dksX1_lay_7 18 rfl rfl)
theorem dX1_lay_183 : decode cX1_lay 183 = .ok (.bipush 63, 2) := dk_16 63 (dk_at dksX1_lay_7 19 rfl rfl)
theorem dX1_lay_185 : decode cX1_lay 185 = .ok (.iand, 1) := dk_126 (dk_at dksX1_lay_7 21 rfl rfl)
theorem dX1_lay_186 : decode cX1_lay 186 = .ok (.ior, 1) := dk_128 (dk_at dksX1_lay_7 22 rfl rfl)
theorem dX1_lay_187 : decode cX1_lay 187 = .ok (.i2b, 1) := dk_145 (dk_at dksX1_lay_7 23 rfl rfl)
theorem dX1_lay_188 : decode cX1_lay 188 = .ok (.bastore, 1) := dk_84 (dk_at dksX1_lay_8 0 rfl rfl)
theorem dX1_lay_189 : decode cX1_lay 189 = .ok (.goto 109, 3) := dk_167 0 109 (dk_at dksX1_lay_8 1 rfl rfl)
theorem dX1_lay_192 : decode cX1_lay 192 = .ok (.aload_n 0, 1) := dk_42 (dk_at dksX1_lay_8 4 rfl rfl)
theorem dX1_lay_193 : decode cX1_lay 193 = .ok (.getfield 7, 3) := dk_180 0 7 (dk_at dksX1_lay_8 5 rfl rfl)
theorem dX1_lay_196 : decode cX1_lay 196 = .ok (.aload_n 0, 1) := dk_42 (dk_at dksX1_lay_8 8 rfl rfl)
theorem dX1_lay_197 : decode cX1_lay 197 = .ok (.dup, 1) := dk_89 (dk_at dksX1_lay_8 9 rfl rfl)
theorem dX1_lay_198 : decode cX1_lay 198 = .ok (.getfield 17, 3) := dk_180 0 17 (dk_at dksX1_lay_8 10 rfl rfl)
theorem dX1_lay_201 : decode cX1_lay 201 = .ok (.dup_x1, 1) := dk_90 (dk_at dksX1_lay_8 13 rfl rfl)
theorem dX1_lay_202 : decode cX1_lay 202 = .ok (.iconst 1, 1) := dk_4 (dk_at dksX1_lay_8 14 rfl rfl)
theorem dX1_lay_203 : decode cX1_lay 203 = .ok (.iadd, 1) := dk_96 (dk_at dksX1_lay_8 15 rfl rfl)
theorem dX1_lay_204 : decode cX1_lay 204 = .ok (.putfield 17, 3) := dk_181 0 17 (dk_at dksX1_lay_8 16 rfl rfl)
theorem dX1_lay_207 : decode cX1_lay 207 = .ok (.sipush 240, 3) := dk_17 0 240 (dk_at dksX1_lay_8 19 rfl rfl)
theorem dX1_lay_210 : decode cX1_lay 210 = .ok (.iload_n 2, 1) := dk_28 (dk_at dksX1_lay_8 22 rfl rfl)
theorem dX1_lay_211 : decode cX1_lay 211 = .ok (.bipush 18, 2) := dk_16 18 (dk_at dksX1_lay_9 0 rfl rfl)
theorem dX1_lay_213 : decode cX1_lay 213 = .ok (.ishr, 1) := dk_122 (dk_at dksX1_lay_9 2 rfl rfl)
theorem dX1_lay_214 : decode cX1_lay 214 = .ok (.ior, 1) := dk_128 (dk_at dksX1_lay_9 3 rfl rfl)
theorem dX1_lay_215 : decode cX1_lay 215 = .ok (.i2b, 1) := dk_145 (dk_at dksX1_lay_9 4 rfl rfl)
theorem dX1_lay_216 : decode cX1_lay 216 = .ok (.bastore, 1) := dk_84 (dk_at dksX1_lay_9 5 rfl rfl)
theorem dX1_lay_217 : decode cX1_lay 217 = .ok (.aload_n 0, 1) := dk_42 (dk_at dksX1_lay_9 6 rfl rfl)
theorem dX1_lay_218 : decode cX1_lay 218 = .ok (.getfield 7, 3) := dk_180 0 7 (dk_at dksX1_lay_9 7 rfl rfl)
theorem dX1_lay_221 : decode cX1_lay 221 = .ok (.aload_n 0, 1) := dk_42 (dk_at dksX1_lay_9 10 rfl rfl)
theorem dX1_lay_222 : decode cX1_lay 222 = .ok (.dup, 1) := dk_89 (dk_at dksX1_lay_9 11 rfl rfl)
theorem dX1_lay_223 : decode cX1_lay 223 = .ok (.getfield 17, 3) := dk_180 0 17 (dk_at dksX1_lay_9 12 rfl rfl)
theorem dX1_lay_226 : decode cX1_lay 226 = .ok (.dup_x1, 1) := dk_90 (dk_at dksX1_lay_9 15 rfl rfl)
theorem dX1_lay_227 : decode cX1_lay 227 = .ok (.iconst 1, 1) := dk_4 (dk_at dksX1_lay_9 16 rfl rfl)
theorem dX1_lay_228 : decode cX1_lay 228 = .ok (.iadd, 1) := dk_96 (dk_at dksX1_lay_9 17 rfl rfl)
theorem dX1_lay_229 : decode cX1_lay 229 = .ok (.putfield 17, 3) := dk_181 0 17 (dk_at dksX1_lay_9 18 rfl rfl)
theorem dX1_lay_232 : decode cX1_lay 232 = .ok (.sipush 128, 3) := dk_17 0 128 (dk_at dksX1_lay_9 21 rfl rfl)
theorem dX1_lay_235 : decode cX1_lay 235 = .ok (.iload_n 2, 1) := dk_28 (dk_at dksX1_lay_10 0 rfl rfl)
theorem dX1_lay_236 : decode cX1_lay 236 = .ok (.bipush 12, 2) := dk_16 12 (dk_at dksX1_lay_10 1 rfl rfl)
theorem dX1_lay_238 : decode cX1_lay 238 = .ok (.ishr, 1) := dk_122 (dk_at dksX1_lay_10 3 rfl rfl)
theorem dX1_lay_239 : decode cX1_lay 239 = .ok (.bipush 63, 2) := dk_16 63 (dk_at dksX1_lay_10 4 rfl rfl)
theorem dX1_lay_241 : decode cX1_lay 241 = .ok (.iand, 1) := dk_126 (dk_at dksX1_lay_10 6 rfl rfl)
theorem dX1_lay_242 : decode cX1_lay 242 = .ok (.ior, 1) := dk_128 (dk_at dksX1_lay_10 7 rfl rfl)
theorem dX1_lay_243 : decode cX1_lay 243 = .ok (.i2b, 1) := dk_145 (dk_at dksX1_lay_10 8 rfl rfl)
theorem dX1_lay_244 : decode cX1_lay 244 = .ok (.bastore, 1) := dk_84 (dk_at dksX1_lay_10 9 rfl rfl)
theorem dX1_lay_245 : decode cX1_lay 245 = .ok (.aload_n 0, 1) := dk_42 (dk_at dksX1_lay_10 10 rfl rfl)
theorem dX1_lay_246 : decode cX1_lay 246 = .ok (.getfield 7, 3) := dk_180 0 7 (dk_at dksX1_lay_10 11 rfl rfl)
theorem dX1_lay_249 : decode cX1_lay 249 = .ok (.aload_n 0, 1) := dk_42 (dk_at dksX1_lay_10 14 rfl rfl)
theorem dX1_lay_250 : decode cX1_lay 250 = .ok (.dup, 1) := dk_89 (dk_at dksX1_lay_10 15 rfl rfl)
theorem dX1_lay_251 : decode cX1_lay 251 = .ok (.getfield 17, 3) := dk_180 0 17 (dk_at dksX1_lay_10 16 rfl rfl)
theorem dX1_lay_254 : decode cX1_lay 254 = .ok (.dup_x1, 1) := dk_90 (dk_at dksX1_lay_10 19 rfl rfl)
theorem dX1_lay_255 : decode cX1_lay 255 = .ok (.iconst 1, 1) := dk_4 (dk_at dksX1_lay_10 20 rfl rfl)
theorem dX1_lay_256 : decode cX1_lay 256 = .ok (.iadd, 1) := dk_96 (dk_at dksX1_lay_10 21 rfl rfl)
theorem dX1_lay_257 : decode cX1_lay 257 = .ok (.putfield 17, 3) := dk_181 0 17 (dk_at dksX1_lay_11 0 rfl rfl)
theorem dX1_lay_260 : decode cX1_lay 260 = .ok (.sipush 128, 3) := dk_17 0 128 (dk_at dksX1_lay_11 3 rfl rfl)
theorem dX1_lay_263 : decode cX1_lay 263 = .ok (.iload_n 2, 1) := dk_28 (dk_at dksX1_lay_11 6 rfl rfl)
theorem dX1_lay_264 : decode cX1_lay 264 = .ok (.bipush 6, 2) := dk_16 6 (dk_at dksX1_lay_11 7 rfl rfl)
theorem dX1_lay_266 : decode cX1_lay 266 = .ok (.ishr, 1) := dk_122 (dk_at dksX1_lay_11 9 rfl rfl)
theorem dX1_lay_267 : decode cX1_lay 267 = .ok (.bipush 63, 2) := dk_16 63 (dk_at dksX1_lay_11 10 rfl rfl)
theorem dX1_lay_269 : decode cX1_lay 269 = .ok (.iand, 1) := dk_126 (dk_at dksX1_lay_11 12 rfl rfl)
theorem dX1_lay_270 : decode cX1_lay 270 = .ok (.ior, 1) := dk_128 (dk_at dksX1_lay_11 13 rfl rfl)
theorem dX1_lay_271 : decode cX1_lay 271 = .ok (.i2b, 1) := dk_145 (dk_at dksX1_lay_11 14 rfl rfl)
theorem dX1_lay_272 : decode cX1_lay 272 = .ok (.bastore, 1) := dk_84 (dk_at dksX1_lay_11 15 rfl rfl)
theorem dX1_lay_273 : decode cX1_lay 273 = .ok (.aload_n 0, 1) := dk_42 (dk_at dksX1_lay_11 16 rfl rfl)
theorem dX1_lay_274 : decode cX1_lay 274 = .ok (.getfield 7, 3) := dk_180 0 7 (dk_at dksX1_lay_11 17 rfl rfl)
theorem dX1_lay_277 : decode cX1_lay 277 = .ok (.aload_n 0, 1) := dk_42 (dk_at dksX1_lay_11 20 rfl rfl)
theorem dX1_lay_278 : decode cX1_lay 278 = .ok (.dup, 1) := dk_89 (dk_at dksX1_lay_11 21 rfl rfl)
theorem dX1_lay_279 : decode cX1_lay 279 = .ok (.getfield 17, 3) := dk_180 0 17 (dk_at dksX1_lay_12 0 rfl rfl)
theorem dX1_lay_282 : decode cX1_lay 282 = .ok (.dup_x1, 1) := dk_90 (dk_at dksX1_lay_12 3 rfl rfl)
theorem dX1_lay_283 : decode cX1_lay 283 = .ok (.iconst 1, 1) := dk_4 (dk_at dksX1_lay_12 4 rfl rfl)
theorem dX1_lay_284 : decode cX1_lay 284 = .ok (.iadd, 1) := dk_96 (dk_at dksX1_lay_12 5 rfl rfl)
theorem dX1_lay_285 : decode cX1_lay 285 = .ok (.putfield 17, 3) := dk_181 0 17 (dk_at dksX1_lay_12 6 rfl rfl)
theorem dX1_lay_288 : decode cX1_lay 288 = .ok (.sipush 128, 3) := dk_17 0 128 (dk_at dksX1_lay_12 9 rfl rfl)
theorem dX1_lay_291 : decode cX1_lay 291 = .ok (.iload_n 2, 1) := dk_28 (dk_at dksX1_lay_12 12 rfl rfl)
theorem dX1_lay_292 : decode cX1_lay 292 = .ok (.bipush 63, 2) := dk_16 63 (dk_at dksX1_lay_12 13 rfl rfl)
theorem dX1_lay_294 : decode cX1_lay 294 = .ok (.iand, 1) := dk_126 (dk_at dksX1_lay_12 15 rfl rfl)
theorem dX1_lay_295 : decode cX1_lay 295 = .ok (.ior, 1) := dk_128 (dk_at dksX1_lay_12 16 rfl rfl)
theorem dX1_lay_296 : decode cX1_lay 296 = .ok (.i2b, 1) := dk_145 (dk_at dksX1_lay_12 17 rfl rfl)
theorem dX1_lay_297 : decode cX1_lay 297 = .ok (.bastore, 1) := dk_84 (dk_at dksX1_lay_12 18 rfl rfl)
theorem dX1_lay_298 : decode cX1_lay 298 = .ok (.aload_n 0, 1) := dk_42 (dk_at dksX1_lay_12 19 rfl rfl)
theorem dX1_lay_299 : decode cX1_lay 299 = .ok (.getfield 17, 3) := dk_180 0 17 (dk_at dksX1_lay_12 20 rfl rfl)
theorem dX1_lay_302 : decode cX1_lay 302 = .ok (.ireturn, 1) := dk_172 (dk_at dksX1_lay_12 23 rfl rfl)
abbrev cX1_spoil : ByteArray := prog_2_method_3_code
def yX1_spoil : MethodName := ⟨RX1, "spoil", "(II)V"⟩
def dkwX1_spoil_0 : List UInt8 := [42, 180, 0, 17, 158, 0, 19, 42, 180, 0, 7, 27, 18, 23, 126, 42, 180, 0, 17, 112, 28, 145, 84, 177]
abbrev dktX1_spoil_0 : List UInt8 := dkwX1_spoil_0 ++ []
theorem dksX1_spoil_0 : cX1_spoil.data.toList.drop 0 = dktX1_spoil_0 := by decide +kernel
theorem dX1_spoil_0 : decode cX1_spoil 0 = .ok (.aload_n 0, 1) := dk_42 (dk_at dksX1_spoil_0 0 rfl rfl)
theorem dX1_spoil_1 : decode cX1_spoil 1 = .ok (.getfield 17, 3) := dk_180 0 17 (dk_at dksX1_spoil_0 1 rfl rfl)
theorem dX1_spoil_4 : decode cX1_spoil 4 = .ok (.ifCond .le 19, 3) := dk_158 0 19 (dk_at dksX1_spoil_0 4 rfl rfl)
theorem dX1_spoil_7 : decode cX1_spoil 7 = .ok (.aload_n 0, 1) := dk_42 (dk_at dksX1_spoil_0 7 rfl rfl)
theorem dX1_spoil_8 : decode cX1_spoil 8 = .ok (.getfield 7, 3) := dk_180 0 7 (dk_at dksX1_spoil_0 8 rfl rfl)
theorem dX1_spoil_11 : decode cX1_spoil 11 = .ok (.iload_n 1, 1) := dk_27 (dk_at dksX1_spoil_0 11 rfl rfl)
theorem dX1_spoil_12 : decode cX1_spoil 12 = .ok (.ldc 23, 2) := dk_18 23 (dk_at dksX1_spoil_0 12 rfl rfl)
theorem dX1_spoil_14 : decode cX1_spoil 14 = .ok (.iand, 1) := dk_126 (dk_at dksX1_spoil_0 14 rfl rfl)
theorem dX1_spoil_15 : decode cX1_spoil 15 = .ok (.aload_n 0, 1) := dk_42 (dk_at dksX1_spoil_0 15 rfl rfl)
theorem dX1_spoil_16 : decode cX1_spoil 16 = .ok (.getfield 17, 3) := dk_180 0 17 (dk_at dksX1_spoil_0 16 rfl rfl)
theorem dX1_spoil_19 : decode cX1_spoil 19 = .ok (.irem, 1) := dk_112 (dk_at dksX1_spoil_0 19 rfl rfl)
theorem dX1_spoil_20 : decode cX1_spoil 20 = .ok (.iload_n 2, 1) := dk_28 (dk_at dksX1_spoil_0 20 rfl rfl)
theorem dX1_spoil_21 : decode cX1_spoil 21 = .ok (.i2b, 1) := dk_145 (dk_at dksX1_spoil_0 21 rfl rfl)
theorem dX1_spoil_22 : decode cX1_spoil 22 = .ok (.bastore, 1) := dk_84 (dk_at dksX1_spoil_0 22 rfl rfl)
theorem dX1_spoil_23 : decode cX1_spoil 23 = .ok (.return_, 1) := dk_177 (dk_at dksX1_spoil_0 23 rfl rfl)
abbrev cX1_read : ByteArray := prog_2_method_6_code
def yX1_read : MethodName := ⟨RX1, "read", "(II)I"⟩
def dkwX1_read_1 : List UInt8 := [180, 0, 17, 29, 100, 4, 96, 112, 42, 180, 0, 13, 184, 0, 24, 181, 0, 30, 42, 180, 0, 30, 172]
abbrev dktX1_read_1 : List UInt8 := dkwX1_read_1 ++ []
def dkwX1_read_0 : List UInt8 := [27, 18, 23, 126, 42, 180, 0, 17, 4, 96, 112, 62, 42, 42, 180, 0, 7, 29, 28, 18, 23, 126, 42]
abbrev dktX1_read_0 : List UInt8 := dkwX1_read_0 ++ dktX1_read_1
theorem dksX1_read_0 : cX1_read.data.toList.drop 0 = dktX1_read_0 := by decide +kernel
theorem dksX1_read_1 : cX1_read.data.toList.drop 23 = dktX1_read_1 := dk_seg dksX1_read_0 23 rfl rfl
theorem dX1_read_0 : decode cX1_read 0 = .ok (.iload_n 1, 1) := dk_27 (dk_at dksX1_read_0 0 rfl rfl)
theorem dX1_read_1 : decode cX1_read 1 = .ok (.ldc 23, 2) := dk_18 23 (dk_at dksX1_read_0 1 rfl rfl)
theorem dX1_read_3 : decode cX1_read 3 = .ok (.iand, 1) := dk_126 (dk_at dksX1_read_0 3 rfl rfl)
theorem dX1_read_4 : decode cX1_read 4 = .ok (.aload_n 0, 1) := dk_42 (dk_at dksX1_read_0 4 rfl rfl)
theorem dX1_read_5 : decode cX1_read 5 = .ok (.getfield 17, 3) := dk_180 0 17 (dk_at dksX1_read_0 5 rfl rfl)
theorem dX1_read_8 : decode cX1_read 8 = .ok (.iconst 1, 1) := dk_4 (dk_at dksX1_read_0 8 rfl rfl)
theorem dX1_read_9 : decode cX1_read 9 = .ok (.iadd, 1) := dk_96 (dk_at dksX1_read_0 9 rfl rfl)
theorem dX1_read_10 : decode cX1_read 10 = .ok (.irem, 1) := dk_112 (dk_at dksX1_read_0 10 rfl rfl)
theorem dX1_read_11 : decode cX1_read 11 = .ok (.istore_n 3, 1) := dk_62 (dk_at dksX1_read_0 11 rfl rfl)
theorem dX1_read_12 : decode cX1_read 12 = .ok (.aload_n 0, 1) := dk_42 (dk_at dksX1_read_0 12 rfl rfl)
theorem dX1_read_13 : decode cX1_read 13 = .ok (.aload_n 0, 1) := dk_42 (dk_at dksX1_read_0 13 rfl rfl)
theorem dX1_read_14 : decode cX1_read 14 = .ok (.getfield 7, 3) := dk_180 0 7 (dk_at dksX1_read_0 14 rfl rfl)
theorem dX1_read_17 : decode cX1_read 17 = .ok (.iload_n 3, 1) := dk_29 (dk_at dksX1_read_0 17 rfl rfl)
theorem dX1_read_18 : decode cX1_read 18 = .ok (.iload_n 2, 1) := dk_28 (dk_at dksX1_read_0 18 rfl rfl)
theorem dX1_read_19 : decode cX1_read 19 = .ok (.ldc 23, 2) := dk_18 23 (dk_at dksX1_read_0 19 rfl rfl)
theorem dX1_read_21 : decode cX1_read 21 = .ok (.iand, 1) := dk_126 (dk_at dksX1_read_0 21 rfl rfl)
theorem dX1_read_22 : decode cX1_read 22 = .ok (.aload_n 0, 1) := dk_42 (dk_at dksX1_read_0 22 rfl rfl)
theorem dX1_read_23 : decode cX1_read 23 = .ok (.getfield 17, 3) := dk_180 0 17 (dk_at dksX1_read_1 0 rfl rfl)
theorem dX1_read_26 : decode cX1_read 26 = .ok (.iload_n 3, 1) := dk_29 (dk_at dksX1_read_1 3 rfl rfl)
theorem dX1_read_27 : decode cX1_read 27 = .ok (.isub, 1) := dk_100 (dk_at dksX1_read_1 4 rfl rfl)
theorem dX1_read_28 : decode cX1_read 28 = .ok (.iconst 1, 1) := dk_4 (dk_at dksX1_read_1 5 rfl rfl)
theorem dX1_read_29 : decode cX1_read 29 = .ok (.iadd, 1) := dk_96 (dk_at dksX1_read_1 6 rfl rfl)
theorem dX1_read_30 : decode cX1_read 30 = .ok (.irem, 1) := dk_112 (dk_at dksX1_read_1 7 rfl rfl)
theorem dX1_read_31 : decode cX1_read 31 = .ok (.aload_n 0, 1) := dk_42 (dk_at dksX1_read_1 8 rfl rfl)
theorem dX1_read_32 : decode cX1_read 32 = .ok (.getfield 13, 3) := dk_180 0 13 (dk_at dksX1_read_1 9 rfl rfl)
theorem dX1_read_35 : decode cX1_read 35 = .ok (.invokestatic 24, 3) := dk_184 0 24 (dk_at dksX1_read_1 12 rfl rfl)
theorem dX1_read_38 : decode cX1_read 38 = .ok (.putfield 30, 3) := dk_181 0 30 (dk_at dksX1_read_1 15 rfl rfl)
theorem dX1_read_41 : decode cX1_read 41 = .ok (.aload_n 0, 1) := dk_42 (dk_at dksX1_read_1 18 rfl rfl)
theorem dX1_read_42 : decode cX1_read 42 = .ok (.getfield 30, 3) := dk_180 0 30 (dk_at dksX1_read_1 19 rfl rfl)
theorem dX1_read_45 : decode cX1_read 45 = .ok (.ireturn, 1) := dk_172 (dk_at dksX1_read_1 22 rfl rfl)
abbrev cX1_letter : ByteArray := prog_2_method_7_code
def yX1_letter : MethodName := ⟨RX1, "letter", "(I)I"⟩
def dkwX1_letter_1 : List UInt8 := [52, 172]
abbrev dktX1_letter_1 : List UInt8 := dkwX1_letter_1 ++ []
def dkwX1_letter_0 : List UInt8 := [42, 180, 0, 30, 157, 0, 7, 2, 167, 0, 17, 42, 180, 0, 13, 27, 18, 23, 126, 42, 180, 0, 30, 112]
abbrev dktX1_letter_0 : List UInt8 := dkwX1_letter_0 ++ dktX1_letter_1
theorem dksX1_letter_0 : cX1_letter.data.toList.drop 0 = dktX1_letter_0 := by decide +kernel
theorem dksX1_letter_1 : cX1_letter.data.toList.drop 24 = dktX1_letter_1 := dk_seg dksX1_letter_0 24 rfl rfl
theorem dX1_letter_0 : decode cX1_letter 0 = .ok (.aload_n 0, 1) := dk_42 (dk_at dksX1_letter_0 0 rfl rfl)
theorem dX1_letter_1 : decode cX1_letter 1 = .ok (.getfield 30, 3) := dk_180 0 30 (dk_at dksX1_letter_0 1 rfl rfl)
theorem dX1_letter_4 : decode cX1_letter 4 = .ok (.ifCond .gt 7, 3) := dk_157 0 7 (dk_at dksX1_letter_0 4 rfl rfl)
theorem dX1_letter_7 : decode cX1_letter 7 = .ok (.iconst (-1), 1) := dk_2 (dk_at dksX1_letter_0 7 rfl rfl)
theorem dX1_letter_8 : decode cX1_letter 8 = .ok (.goto 17, 3) := dk_167 0 17 (dk_at dksX1_letter_0 8 rfl rfl)
theorem dX1_letter_11 : decode cX1_letter 11 = .ok (.aload_n 0, 1) := dk_42 (dk_at dksX1_letter_0 11 rfl rfl)
theorem dX1_letter_12 : decode cX1_letter 12 = .ok (.getfield 13, 3) := dk_180 0 13 (dk_at dksX1_letter_0 12 rfl rfl)
theorem dX1_letter_15 : decode cX1_letter 15 = .ok (.iload_n 1, 1) := dk_27 (dk_at dksX1_letter_0 15 rfl rfl)
theorem dX1_letter_16 : decode cX1_letter 16 = .ok (.ldc 23, 2) := dk_18 23 (dk_at dksX1_letter_0 16 rfl rfl)
theorem dX1_letter_18 : decode cX1_letter 18 = .ok (.iand, 1) := dk_126 (dk_at dksX1_letter_0 18 rfl rfl)
theorem dX1_letter_19 : decode cX1_letter 19 = .ok (.aload_n 0, 1) := dk_42 (dk_at dksX1_letter_0 19 rfl rfl)
theorem dX1_letter_20 : decode cX1_letter 20 = .ok (.getfield 30, 3) := dk_180 0 30 (dk_at dksX1_letter_0 20 rfl rfl)
theorem dX1_letter_23 : decode cX1_letter 23 = .ok (.irem, 1) := dk_112 (dk_at dksX1_letter_0 23 rfl rfl)
theorem dX1_letter_24 : decode cX1_letter 24 = .ok (.caload, 1) := dk_52 (dk_at dksX1_letter_1 0 rfl rfl)
theorem dX1_letter_25 : decode cX1_letter 25 = .ok (.ireturn, 1) := dk_172 (dk_at dksX1_letter_1 1 rfl rfl)
abbrev cX1_size : ByteArray := prog_2_method_5_code
def yX1_size : MethodName := ⟨RX1, "size", "()I"⟩
theorem dX1_size_0 : decode cX1_size 0 = .ok (.aload_n 0, 1) := by decide +kernel
theorem dX1_size_1 : decode cX1_size 1 = .ok (.getfield 17, 3) := by decide +kernel
theorem dX1_size_4 : decode cX1_size 4 = .ok (.ireturn, 1) := by decide +kernel
abbrev cX1_cut : ByteArray := prog_2_method_4_code
def yX1_cut : MethodName := ⟨RX1, "cut", "(I)V"⟩
def dkwX1_cut_0 : List UInt8 := [42, 27, 18, 23, 126, 42, 180, 0, 17, 4, 96, 112, 181, 0, 17, 177]
abbrev dktX1_cut_0 : List UInt8 := dkwX1_cut_0 ++ []
theorem dksX1_cut_0 : cX1_cut.data.toList.drop 0 = dktX1_cut_0 := by decide +kernel
theorem dX1_cut_0 : decode cX1_cut 0 = .ok (.aload_n 0, 1) := dk_42 (dk_at dksX1_cut_0 0 rfl rfl)
theorem dX1_cut_1 : decode cX1_cut 1 = .ok (.iload_n 1, 1) := dk_27 (dk_at dksX1_cut_0 1 rfl rfl)
theorem dX1_cut_2 : decode cX1_cut 2 = .ok (.ldc 23, 2) := dk_18 23 (dk_at dksX1_cut_0 2 rfl rfl)
theorem dX1_cut_4 : decode cX1_cut 4 = .ok (.iand, 1) := dk_126 (dk_at dksX1_cut_0 4 rfl rfl)
theorem dX1_cut_5 : decode cX1_cut 5 = .ok (.aload_n 0, 1) := dk_42 (dk_at dksX1_cut_0 5 rfl rfl)
theorem dX1_cut_6 : decode cX1_cut 6 = .ok (.getfield 17, 3) := dk_180 0 17 (dk_at dksX1_cut_0 6 rfl rfl)
theorem dX1_cut_9 : decode cX1_cut 9 = .ok (.iconst 1, 1) := dk_4 (dk_at dksX1_cut_0 9 rfl rfl)
theorem dX1_cut_10 : decode cX1_cut 10 = .ok (.iadd, 1) := dk_96 (dk_at dksX1_cut_0 10 rfl rfl)
theorem dX1_cut_11 : decode cX1_cut 11 = .ok (.irem, 1) := dk_112 (dk_at dksX1_cut_0 11 rfl rfl)
theorem dX1_cut_12 : decode cX1_cut 12 = .ok (.putfield 17, 3) := dk_181 0 17 (dk_at dksX1_cut_0 12 rfl rfl)
theorem dX1_cut_15 : decode cX1_cut 15 = .ok (.return_, 1) := dk_177 (dk_at dksX1_cut_0 15 rfl rfl)
theorem q1 : (Jvm.Cond.initialized "WireLetters") ∈ lw_all := lw_g (lw_at lw_m0 1 rfl) rfl
theorem q7 : (Jvm.Cond.instantiable "WireLetters" (4 : Nat)) ∈ lw_all := lw_g (lw_at lw_m0 7 rfl) rfl
theorem q9 : (Jvm.Cond.instanceMethod ({ cls := "WireLetters", name := "<init>", desc := "()V" } : Jvm.MethodName)) ∈ lw_all := lw_g (lw_at lw_m0 9 rfl) rfl
theorem q10 : (Jvm.Cond.code ({ cls := "WireLetters", name := "<init>", desc := "()V" } : Jvm.MethodName) prog_2_method_1_code (1 : Nat) (Option.none : Option Jvm.ClassFile.FieldType)) ∈ lw_all := lw_g (lw_at lw_m0 10 rfl) rfl
theorem q11 : (Jvm.Cond.methodLink "WireLetters" (1 : Nat) ({ cls := "java/lang/Object", name := "<init>", desc := "()V" } : Jvm.MethodName)) ∈ lw_all := lw_g (lw_at lw_m0 11 rfl) rfl
theorem q14 : (Jvm.Cond.fieldLink "WireLetters" (7 : Nat) "WireLetters" "text" "[B") ∈ lw_all := lw_g (lw_at lw_m0 14 rfl) rfl
theorem q15 : (Jvm.Cond.fieldLink "WireLetters" (13 : Nat) "WireLetters" "letters" "[C") ∈ lw_all := lw_g (lw_at lw_m0 15 rfl) rfl
theorem q16 : (Jvm.Cond.fieldLink "WireLetters" (17 : Nat) "WireLetters" "size" "I") ∈ lw_all := lw_g (lw_at lw_m0 16 rfl) rfl
theorem q17 : (Jvm.Cond.fieldLink "WireLetters" (30 : Nat) "WireLetters" "read" "I") ∈ lw_all := lw_g (lw_at lw_m0 17 rfl) rfl
theorem q18 : (Jvm.Cond.laysFinal "WireLetters" "WireLetters" "text" "[B") ∈ lw_all := lw_g (lw_at lw_m0 18 rfl) rfl
theorem q19 : (Jvm.Cond.soleField "WireLetters" "text") ∈ lw_all := lw_g (lw_at lw_m0 19 rfl) rfl
theorem q20 : (Jvm.Cond.laysFinal "WireLetters" "WireLetters" "letters" "[C") ∈ lw_all := lw_g (lw_at lw_m0 20 rfl) rfl
theorem q21 : (Jvm.Cond.soleField "WireLetters" "letters") ∈ lw_all := lw_g (lw_at lw_m0 21 rfl) rfl
theorem q22 : (Jvm.Cond.lays "WireLetters" "WireLetters" "size" "I") ∈ lw_all := lw_g (lw_at lw_m0 22 rfl) rfl
theorem q23 : (Jvm.Cond.soleField "WireLetters" "size") ∈ lw_all := lw_g (lw_at lw_m0 23 rfl) rfl
theorem q24 : (Jvm.Cond.lays "WireLetters" "WireLetters" "read" "I") ∈ lw_all := lw_g (lw_at lw_m0 24 rfl) rfl
theorem q25 : (Jvm.Cond.soleField "WireLetters" "read") ∈ lw_all := lw_g (lw_at lw_m0 25 rfl) rfl
theorem q26 : (Jvm.Cond.superclass "WireLetters" "java/lang/Object") ∈ lw_all := lw_g (lw_at lw_m0 26 rfl) rfl
theorem q31 : (Jvm.Cond.instanceMethod ({ cls := "WireLetters", name := "lay", desc := "(I)I" } : Jvm.MethodName)) ∈ lw_all := lw_g (lw_at lw_m0 31 rfl) rfl
theorem q32 : (Jvm.Cond.selects "WireLetters" ({ cls := "WireLetters", name := "lay", desc := "(I)I" } : Jvm.MethodName) ({ cls := "WireLetters", name := "lay", desc := "(I)I" } : Jvm.MethodName)) ∈ lw_all := lw_g (lw_at lw_m0 32 rfl) rfl
theorem q33 : (Jvm.Cond.code ({ cls := "WireLetters", name := "lay", desc := "(I)I" } : Jvm.MethodName) prog_2_method_2_code (3 : Nat) (Option.some Jvm.ClassFile.FieldType.int)) ∈ lw_all := lw_g (lw_at lw_m0 33 rfl) rfl
theorem q34 : (Jvm.Cond.constant "WireLetters" (21 : Nat) (2097151 : Int32)) ∈ lw_all := lw_g (lw_at lw_m0 34 rfl) rfl
theorem q35 : (Jvm.Cond.constant "WireLetters" (22 : Nat) (65536 : Int32)) ∈ lw_all := lw_g (lw_at lw_m0 35 rfl) rfl
theorem q40 : (Jvm.Cond.instanceMethod ({ cls := "WireLetters", name := "spoil", desc := "(II)V" } : Jvm.MethodName)) ∈ lw_all := lw_g (lw_at lw_m0 40 rfl) rfl
theorem q41 : (Jvm.Cond.selects "WireLetters" ({ cls := "WireLetters", name := "spoil", desc := "(II)V" } : Jvm.MethodName) ({ cls := "WireLetters", name := "spoil", desc := "(II)V" } : Jvm.MethodName)) ∈ lw_all := lw_g (lw_at lw_m0 41 rfl) rfl
theorem q42 : (Jvm.Cond.code ({ cls := "WireLetters", name := "spoil", desc := "(II)V" } : Jvm.MethodName) prog_2_method_3_code (3 : Nat) (Option.none : Option Jvm.ClassFile.FieldType)) ∈ lw_all := lw_g (lw_at lw_m0 42 rfl) rfl
theorem q43 : (Jvm.Cond.constant "WireLetters" (23 : Nat) (2147483647 : Int32)) ∈ lw_all := lw_g (lw_at lw_m0 43 rfl) rfl
theorem q51 : (Jvm.Cond.instanceMethod ({ cls := "WireLetters", name := "read", desc := "(II)I" } : Jvm.MethodName)) ∈ lw_all := lw_g (lw_at lw_m0 51 rfl) rfl
theorem q52 : (Jvm.Cond.selects "WireLetters" ({ cls := "WireLetters", name := "read", desc := "(II)I" } : Jvm.MethodName) ({ cls := "WireLetters", name := "read", desc := "(II)I" } : Jvm.MethodName)) ∈ lw_all := lw_g (lw_at lw_m0 52 rfl) rfl
theorem q53 : (Jvm.Cond.code ({ cls := "WireLetters", name := "read", desc := "(II)I" } : Jvm.MethodName) prog_2_method_6_code (4 : Nat) (Option.some Jvm.ClassFile.FieldType.int)) ∈ lw_all := lw_g (lw_at lw_m0 53 rfl) rfl
theorem q54 : (Jvm.Cond.methodLink "WireLetters" (24 : Nat) ({ cls := "UTF8", name := "transcodeToUTF16", desc := "([BII[C)I" } : Jvm.MethodName)) ∈ lw_all := lw_g (lw_at lw_m0 54 rfl) rfl
theorem q65 : (Jvm.Cond.instanceMethod ({ cls := "WireLetters", name := "letter", desc := "(I)I" } : Jvm.MethodName)) ∈ lw_all := lw_g (lw_at lw_m0 65 rfl) rfl
theorem q66 : (Jvm.Cond.selects "WireLetters" ({ cls := "WireLetters", name := "letter", desc := "(I)I" } : Jvm.MethodName) ({ cls := "WireLetters", name := "letter", desc := "(I)I" } : Jvm.MethodName)) ∈ lw_all := lw_g (lw_at lw_m0 66 rfl) rfl
theorem q67 : (Jvm.Cond.code ({ cls := "WireLetters", name := "letter", desc := "(I)I" } : Jvm.MethodName) prog_2_method_7_code (2 : Nat) (Option.some Jvm.ClassFile.FieldType.int)) ∈ lw_all := lw_g (lw_at lw_m0 67 rfl) rfl
theorem q77 : (Jvm.Cond.instanceMethod ({ cls := "WireLetters", name := "size", desc := "()I" } : Jvm.MethodName)) ∈ lw_all := lw_g (lw_at lw_m0 77 rfl) rfl
theorem q78 : (Jvm.Cond.selects "WireLetters" ({ cls := "WireLetters", name := "size", desc := "()I" } : Jvm.MethodName) ({ cls := "WireLetters", name := "size", desc := "()I" } : Jvm.MethodName)) ∈ lw_all := lw_g (lw_at lw_m0 78 rfl) rfl
theorem q79 : (Jvm.Cond.code ({ cls := "WireLetters", name := "size", desc := "()I" } : Jvm.MethodName) prog_2_method_5_code (1 : Nat) (Option.some Jvm.ClassFile.FieldType.int)) ∈ lw_all := lw_g (lw_at lw_m0 79 rfl) rfl
theorem q86 : (Jvm.Cond.instanceMethod ({ cls := "WireLetters", name := "cut", desc := "(I)V" } : Jvm.MethodName)) ∈ lw_all := lw_g (lw_at lw_m0 86 rfl) rfl
theorem q87 : (Jvm.Cond.selects "WireLetters" ({ cls := "WireLetters", name := "cut", desc := "(I)V" } : Jvm.MethodName) ({ cls := "WireLetters", name := "cut", desc := "(I)V" } : Jvm.MethodName)) ∈ lw_all := lw_g (lw_at lw_m0 87 rfl) rfl
theorem q88 : (Jvm.Cond.code ({ cls := "WireLetters", name := "cut", desc := "(I)V" } : Jvm.MethodName) prog_2_method_4_code (2 : Nat) (Option.none : Option Jvm.ClassFile.FieldType)) ∈ lw_all := lw_g (lw_at lw_m0 88 rfl) rfl
theorem in_X1 : ∀ w ∈ wsX10, w ∈ lw_all := lw_in wsX10 [18, 20, 22, 24] (by decide +kernel) (by decide +kernel)
end
section
/-! WireLettersLaw -/
set_option maxRecDepth 100000
def RX0 : String := "WireLettersLaw"
abbrev cX0_anyBytes : ByteArray := method_5_code
def yX0_anyBytes : MethodName := ⟨RX0, "anyBytes", "([I)Z"⟩
def dkwX0_anyBytes_20 : List UInt8 := [132, 5, 1, 167, 255, 120, 4, 172]
abbrev dktX0_anyBytes_20 : List UInt8 := dkwX0_anyBytes_20 ++ []
def dkwX0_anyBytes_19 : List UInt8 := [182, 0, 37, 45, 21, 8, 46, 159, 0, 5, 3, 172, 132, 8, 1, 167, 255, 213, 132, 6, 1, 167, 255, 136]
abbrev dktX0_anyBytes_19 : List UInt8 := dkwX0_anyBytes_19 ++ dktX0_anyBytes_20
def dkwX0_anyBytes_18 : List UInt8 := [162, 0, 42, 25, 4, 21, 8, 182, 0, 37, 45, 21, 8, 46, 160, 0, 20, 25, 4, 21, 8, 21, 7, 96]
abbrev dktX0_anyBytes_18 : List UInt8 := dkwX0_anyBytes_18 ++ dktX0_anyBytes_19
def dkwX0_anyBytes_17 : List UInt8 := [158, 0, 9, 45, 3, 46, 167, 0, 4, 2, 159, 0, 5, 3, 172, 3, 54, 8, 21, 8, 21, 7]
abbrev dktX0_anyBytes_17 : List UInt8 := dkwX0_anyBytes_17 ++ dktX0_anyBytes_18
def dkwX0_anyBytes_16 : List UInt8 := [25, 4, 21, 5, 21, 6, 182, 0, 33, 21, 7, 160, 0, 24, 25, 4, 3, 182, 0, 37, 21, 7]
abbrev dktX0_anyBytes_16 : List UInt8 := dkwX0_anyBytes_16 ++ dktX0_anyBytes_17
def dkwX0_anyBytes_15 : List UInt8 := [21, 5, 21, 6, 96, 16, 40, 163, 0, 109, 44, 21, 5, 21, 5, 21, 6, 96, 45, 184, 0, 29, 54, 7]
abbrev dktX0_anyBytes_15 : List UInt8 := dkwX0_anyBytes_15 ++ dktX0_anyBytes_16
def dkwX0_anyBytes_14 : List UInt8 := [167, 255, 200, 3, 54, 5, 21, 5, 16, 40, 163, 0, 135, 3, 54, 6, 21, 6, 16, 6, 163, 0, 119]
abbrev dktX0_anyBytes_14 : List UInt8 := dkwX0_anyBytes_14 ++ dktX0_anyBytes_15
def dkwX0_anyBytes_13 : List UInt8 := [25, 4, 21, 5, 16, 40, 96, 44, 21, 5, 46, 21, 6, 17, 255, 0, 126, 128, 182, 0, 25, 132, 5, 1]
abbrev dktX0_anyBytes_13 : List UInt8 := dkwX0_anyBytes_13 ++ dktX0_anyBytes_14
def dkwX0_anyBytes_12 : List UInt8 := [21, 5, 184, 0, 19, 16, 7, 21, 5, 104, 96, 54, 6, 44, 21, 5, 43, 21, 6, 16, 31, 126, 46, 79]
abbrev dktX0_anyBytes_12 : List UInt8 := dkwX0_anyBytes_12 ++ dktX0_anyBytes_13
def dkwX0_anyBytes_11 : List UInt8 := [96, 159, 0, 5, 3, 172, 132, 5, 1, 167, 255, 231, 3, 54, 5, 21, 5, 16, 40, 162, 0, 55, 42]
abbrev dktX0_anyBytes_11 : List UInt8 := dkwX0_anyBytes_11 ++ dktX0_anyBytes_12
def dkwX0_anyBytes_10 : List UInt8 := [183, 0, 14, 58, 4, 3, 54, 5, 21, 5, 16, 40, 162, 0, 24, 25, 4, 3, 182, 0, 15, 21, 5, 4]
abbrev dktX0_anyBytes_10 : List UInt8 := dkwX0_anyBytes_10 ++ dktX0_anyBytes_11
def dkwX0_anyBytes_9 : List UInt8 := [79, 89, 16, 31, 17, 0, 159, 79, 76, 16, 40, 188, 10, 77, 16, 80, 188, 10, 78, 187, 0, 12, 89]
abbrev dktX0_anyBytes_9 : List UInt8 := dkwX0_anyBytes_9 ++ dktX0_anyBytes_10
def dkwX0_anyBytes_8 : List UInt8 := [17, 0, 128, 79, 89, 16, 28, 17, 0, 160, 79, 89, 16, 29, 17, 0, 191, 79, 89, 16, 30, 17, 0, 144]
abbrev dktX0_anyBytes_8 : List UInt8 := dkwX0_anyBytes_8 ++ dktX0_anyBytes_9
def dkwX0_anyBytes_7 : List UInt8 := [16, 24, 17, 0, 247, 79, 89, 16, 25, 17, 0, 248, 79, 89, 16, 26, 17, 0, 255, 79, 89, 16, 27]
abbrev dktX0_anyBytes_7 : List UInt8 := dkwX0_anyBytes_7 ++ dktX0_anyBytes_8
def dkwX0_anyBytes_6 : List UInt8 := [79, 89, 16, 21, 17, 0, 243, 79, 89, 16, 22, 17, 0, 244, 79, 89, 16, 23, 17, 0, 245, 79, 89]
abbrev dktX0_anyBytes_6 : List UInt8 := dkwX0_anyBytes_6 ++ dktX0_anyBytes_7
def dkwX0_anyBytes_5 : List UInt8 := [17, 0, 238, 79, 89, 16, 18, 17, 0, 239, 79, 89, 16, 19, 17, 0, 240, 79, 89, 16, 20, 17, 0, 241]
abbrev dktX0_anyBytes_5 : List UInt8 := dkwX0_anyBytes_5 ++ dktX0_anyBytes_6
def dkwX0_anyBytes_4 : List UInt8 := [16, 14, 17, 0, 225, 79, 89, 16, 15, 17, 0, 236, 79, 89, 16, 16, 17, 0, 237, 79, 89, 16, 17]
abbrev dktX0_anyBytes_4 : List UInt8 := dkwX0_anyBytes_4 ++ dktX0_anyBytes_5
def dkwX0_anyBytes_3 : List UInt8 := [79, 89, 16, 11, 17, 0, 194, 79, 89, 16, 12, 17, 0, 223, 79, 89, 16, 13, 17, 0, 224, 79, 89]
abbrev dktX0_anyBytes_3 : List UInt8 := dkwX0_anyBytes_3 ++ dktX0_anyBytes_4
def dkwX0_anyBytes_2 : List UInt8 := [17, 0, 160, 79, 89, 16, 8, 17, 0, 191, 79, 89, 16, 9, 17, 0, 192, 79, 89, 16, 10, 17, 0, 193]
abbrev dktX0_anyBytes_2 : List UInt8 := dkwX0_anyBytes_2 ++ dktX0_anyBytes_3
def dkwX0_anyBytes_1 : List UInt8 := [89, 7, 17, 0, 143, 79, 89, 8, 17, 0, 144, 79, 89, 16, 6, 17, 0, 159, 79, 89, 16, 7]
abbrev dktX0_anyBytes_1 : List UInt8 := dkwX0_anyBytes_1 ++ dktX0_anyBytes_2
def dkwX0_anyBytes_0 : List UInt8 := [16, 32, 188, 10, 89, 3, 3, 79, 89, 4, 16, 65, 79, 89, 5, 16, 127, 79, 89, 6, 17, 0, 128, 79]
abbrev dktX0_anyBytes_0 : List UInt8 := dkwX0_anyBytes_0 ++ dktX0_anyBytes_1
theorem dksX0_anyBytes_0 : cX0_anyBytes.data.toList.drop 0 = dktX0_anyBytes_0 := by decide +kernel
theorem dksX0_anyBytes_1 : cX0_anyBytes.data.toList.drop 24 = dktX0_anyBytes_1 := dk_seg dksX0_anyBytes_0 24 rfl rfl
theorem dksX0_anyBytes_2 : cX0_anyBytes.data.toList.drop 46 = dktX0_anyBytes_2 := dk_seg dksX0_anyBytes_1 22 rfl rfl
theorem dksX0_anyBytes_3 : cX0_anyBytes.data.toList.drop 70 = dktX0_anyBytes_3 := dk_seg dksX0_anyBytes_2 24 rfl rfl
theorem dksX0_anyBytes_4 : cX0_anyBytes.data.toList.drop 93 = dktX0_anyBytes_4 := dk_seg dksX0_anyBytes_3 23 rfl rfl
theorem dksX0_anyBytes_5 : cX0_anyBytes.data.toList.drop 116 = dktX0_anyBytes_5 := dk_seg dksX0_anyBytes_4 23 rfl rfl
theorem dksX0_anyBytes_6 : cX0_anyBytes.data.toList.drop 140 = dktX0_anyBytes_6 := dk_seg dksX0_anyBytes_5 24 rfl rfl
theorem dksX0_anyBytes_7 : cX0_anyBytes.data.toList.drop 163 = dktX0_anyBytes_7 := dk_seg dksX0_anyBytes_6 23 rfl rfl
theorem dksX0_anyBytes_8 : cX0_anyBytes.data.toList.drop 186 = dktX0_anyBytes_8 := dk_seg dksX0_anyBytes_7 23 rfl rfl
theorem dksX0_anyBytes_9 : cX0_anyBytes.data.toList.drop 210 = dktX0_anyBytes_9 := dk_seg dksX0_anyBytes_8 24 rfl rfl
theorem dksX0_anyBytes_10 : cX0_anyBytes.data.toList.drop 233 = dktX0_anyBytes_10 := dk_seg dksX0_anyBytes_9 23 rfl rfl
theorem dksX0_anyBytes_11 : cX0_anyBytes.data.toList.drop 257 = dktX0_anyBytes_11 := dk_seg dksX0_anyBytes_10 24 rfl rfl
theorem dksX0_anyBytes_12 : cX0_anyBytes.data.toList.drop 280 = dktX0_anyBytes_12 := dk_seg dksX0_anyBytes_11 23 rfl rfl
theorem dksX0_anyBytes_13 : cX0_anyBytes.data.toList.drop 304 = dktX0_anyBytes_13 := dk_seg dksX0_anyBytes_12 24 rfl rfl
theorem dksX0_anyBytes_14 : cX0_anyBytes.data.toList.drop 328 = dktX0_anyBytes_14 := dk_seg dksX0_anyBytes_13 24 rfl rfl
theorem dksX0_anyBytes_15 : cX0_anyBytes.data.toList.drop 351 = dktX0_anyBytes_15 := dk_seg dksX0_anyBytes_14 23 rfl rfl
theorem dksX0_anyBytes_16 : cX0_anyBytes.data.toList.drop 375 = dktX0_anyBytes_16 := dk_seg dksX0_anyBytes_15 24 rfl rfl
theorem dksX0_anyBytes_17 : cX0_anyBytes.data.toList.drop 397 = dktX0_anyBytes_17 := dk_seg dksX0_anyBytes_16 22 rfl rfl
theorem dksX0_anyBytes_18 : cX0_anyBytes.data.toList.drop 419 = dktX0_anyBytes_18 := dk_seg dksX0_anyBytes_17 22 rfl rfl
theorem dksX0_anyBytes_19 : cX0_anyBytes.data.toList.drop 443 = dktX0_anyBytes_19 := dk_seg dksX0_anyBytes_18 24 rfl rfl
theorem dksX0_anyBytes_20 : cX0_anyBytes.data.toList.drop 467 = dktX0_anyBytes_20 := dk_seg dksX0_anyBytes_19 24 rfl rfl
theorem dX0_anyBytes_0 : decode cX0_anyBytes 0 = .ok (.bipush 32, 2) := dk_16 32 (dk_at dksX0_anyBytes_0 0 rfl rfl)
theorem dX0_anyBytes_2 : decode cX0_anyBytes 2 = .ok (.newarray .int, 2) := dk_188_10 (dk_at dksX0_anyBytes_0 2 rfl rfl)
theorem dX0_anyBytes_4 : decode cX0_anyBytes 4 = .ok (.dup, 1) := dk_89 (dk_at dksX0_anyBytes_0 4 rfl rfl)
theorem dX0_anyBytes_5 : decode cX0_anyBytes 5 = .ok (.iconst 0, 1) := dk_3 (dk_at dksX0_anyBytes_0 5 rfl rfl)
theorem dX0_anyBytes_6 : decode cX0_anyBytes 6 = .ok (.iconst 0, 1) := dk_3 (dk_at dksX0_anyBytes_0 6 rfl rfl)
theorem dX0_anyBytes_7 : decode cX0_anyBytes 7 = .ok (.iastore, 1) := dk_79 (dk_at dksX0_anyBytes_0 7 rfl rfl)
theorem dX0_anyBytes_8 : decode cX0_anyBytes 8 = .ok (.dup, 1) := dk_89 (dk_at dksX0_anyBytes_0 8 rfl rfl)
theorem dX0_anyBytes_9 : decode cX0_anyBytes 9 = .ok (.iconst 1, 1) := dk_4 (dk_at dksX0_anyBytes_0 9 rfl rfl)
theorem dX0_anyBytes_10 : decode cX0_anyBytes 10 = .ok (.bipush 65, 2) := dk_16 65 (dk_at dksX0_anyBytes_0 10 rfl rfl)
theorem dX0_anyBytes_12 : decode cX0_anyBytes 12 = .ok (.iastore, 1) := dk_79 (dk_at dksX0_anyBytes_0 12 rfl rfl)
theorem dX0_anyBytes_13 : decode cX0_anyBytes 13 = .ok (.dup, 1) := dk_89 (dk_at dksX0_anyBytes_0 13 rfl rfl)
theorem dX0_anyBytes_14 : decode cX0_anyBytes 14 = .ok (.iconst 2, 1) := dk_5 (dk_at dksX0_anyBytes_0 14 rfl rfl)
theorem dX0_anyBytes_15 : decode cX0_anyBytes 15 = .ok (.bipush 127, 2) := dk_16 127 (dk_at dksX0_anyBytes_0 15 rfl rfl)
theorem dX0_anyBytes_17 : decode cX0_anyBytes 17 = .ok (.iastore, 1) := dk_79 (dk_at dksX0_anyBytes_0 17 rfl rfl)
theorem dX0_anyBytes_18 : decode cX0_anyBytes 18 = .ok (.dup, 1) := dk_89 (dk_at dksX0_anyBytes_0 18 rfl rfl)
theorem dX0_anyBytes_19 : decode cX0_anyBytes 19 = .ok (.iconst 3, 1) := dk_6 (dk_at dksX0_anyBytes_0 19 rfl rfl)
theorem dX0_anyBytes_20 : decode cX0_anyBytes 20 = .ok (.sipush 128, 3) := dk_17 0 128 (dk_at dksX0_anyBytes_0 20 rfl rfl)
theorem dX0_anyBytes_23 : decode cX0_anyBytes 23 = .ok (.iastore, 1) := dk_79 (dk_at dksX0_anyBytes_0 23 rfl rfl)
theorem dX0_anyBytes_24 : decode cX0_anyBytes 24 = .ok (.dup, 1) := dk_89 (dk_at dksX0_anyBytes_1 0 rfl rfl)
theorem dX0_anyBytes_25 : decode cX0_anyBytes 25 = .ok (.iconst 4, 1) := dk_7 (dk_at dksX0_anyBytes_1 1 rfl rfl)
theorem dX0_anyBytes_26 : decode cX0_anyBytes 26 = .ok (.sipush 143, 3) := dk_17 0 143 (dk_at dksX0_anyBytes_1 2 rfl rfl)
theorem dX0_anyBytes_29 : decode cX0_anyBytes 29 = .ok (.iastore, 1) := dk_79 (dk_at dksX0_anyBytes_1 5 rfl rfl)
theorem dX0_anyBytes_30 : decode cX0_anyBytes 30 = .ok (.dup, 1) := dk_89 (dk_at dksX0_anyBytes_1 6 rfl rfl)
theorem dX0_anyBytes_31 : decode cX0_anyBytes 31 = .ok (.iconst 5, 1) := dk_8 (dk_at dksX0_anyBytes_1 7 rfl rfl)
theorem dX0_anyBytes_32 : decode cX0_anyBytes 32 = .ok (.sipush 144, 3) := dk_17 0 144 (dk_at dksX0_anyBytes_1 8 rfl rfl)
theorem dX0_anyBytes_35 : decode cX0_anyBytes 35 = .ok (.iastore, 1) := dk_79 (dk_at dksX0_anyBytes_1 11 rfl rfl)
theorem dX0_anyBytes_36 : decode cX0_anyBytes 36 = .ok (.dup, 1) := dk_89 (dk_at dksX0_anyBytes_1 12 rfl rfl)
theorem dX0_anyBytes_37 : decode cX0_anyBytes 37 = .ok (.bipush 6, 2) := dk_16 6 (dk_at dksX0_anyBytes_1 13 rfl rfl)
theorem dX0_anyBytes_39 : decode cX0_anyBytes 39 = .ok (.sipush 159, 3) := dk_17 0 159 (dk_at dksX0_anyBytes_1 15 rfl rfl)
theorem dX0_anyBytes_42 : decode cX0_anyBytes 42 = .ok (.iastore, 1) := dk_79 (dk_at dksX0_anyBytes_1 18 rfl rfl)
theorem dX0_anyBytes_43 : decode cX0_anyBytes 43 = .ok (.dup, 1) := dk_89 (dk_at dksX0_anyBytes_1 19 rfl rfl)
theorem dX0_anyBytes_44 : decode cX0_anyBytes 44 = .ok (.bipush 7, 2) := dk_16 7 (dk_at dksX0_anyBytes_1 20 rfl rfl)
theorem dX0_anyBytes_46 : decode cX0_anyBytes 46 = .ok (.sipush 160, 3) := dk_17 0 160 (dk_at dksX0_anyBytes_2 0 rfl rfl)
theorem dX0_anyBytes_49 : decode cX0_anyBytes 49 = .ok (.iastore, 1) := dk_79 (dk_at dksX0_anyBytes_2 3 rfl rfl)
theorem dX0_anyBytes_50 : decode cX0_anyBytes 50 = .ok (.dup, 1) := dk_89 (dk_at dksX0_anyBytes_2 4 rfl rfl)
theorem dX0_anyBytes_51 : decode cX0_anyBytes 51 = .ok (.bipush 8, 2) := dk_16 8 (dk_at dksX0_anyBytes_2 5 rfl rfl)
theorem dX0_anyBytes_53 : decode cX0_anyBytes 53 = .ok (.sipush 191, 3) := dk_17 0 191 (dk_at dksX0_anyBytes_2 7 rfl rfl)
theorem dX0_anyBytes_56 : decode cX0_anyBytes 56 = .ok (.iastore, 1) := dk_79 (dk_at dksX0_anyBytes_2 10 rfl rfl)
theorem dX0_anyBytes_57 : decode cX0_anyBytes 57 = .ok (.dup, 1) := dk_89 (dk_at dksX0_anyBytes_2 11 rfl rfl)
theorem dX0_anyBytes_58 : decode cX0_anyBytes 58 = .ok (.bipush 9, 2) := dk_16 9 (dk_at dksX0_anyBytes_2 12 rfl rfl)
theorem dX0_anyBytes_60 : decode cX0_anyBytes 60 = .ok (.sipush 192, 3) := dk_17 0 192 (dk_at dksX0_anyBytes_2 14 rfl rfl)
theorem dX0_anyBytes_63 : decode cX0_anyBytes 63 = .ok (.iastore, 1) := dk_79 (dk_at dksX0_anyBytes_2 17 rfl rfl)
theorem dX0_anyBytes_64 : decode cX0_anyBytes 64 = .ok (.dup, 1) := dk_89 (dk_at dksX0_anyBytes_2 18 rfl rfl)
theorem dX0_anyBytes_65 : decode cX0_anyBytes 65 = .ok (.bipush 10, 2) := dk_16 10 (dk_at dksX0_anyBytes_2 19 rfl rfl)
theorem dX0_anyBytes_67 : decode cX0_anyBytes 67 = .ok (.sipush 193, 3) := dk_17 0 193 (dk_at dksX0_anyBytes_2 21 rfl rfl)
theorem dX0_anyBytes_70 : decode cX0_anyBytes 70 = .ok (.iastore, 1) := dk_79 (dk_at dksX0_anyBytes_3 0 rfl rfl)
theorem dX0_anyBytes_71 : decode cX0_anyBytes 71 = .ok (.dup, 1) := dk_89 (dk_at dksX0_anyBytes_3 1 rfl rfl)
theorem dX0_anyBytes_72 : decode cX0_anyBytes 72 = .ok (.bipush 11, 2) := dk_16 11 (dk_at dksX0_anyBytes_3 2 rfl rfl)
theorem dX0_anyBytes_74 : decode cX0_anyBytes 74 = .ok (.sipush 194, 3) := dk_17 0 194 (dk_at dksX0_anyBytes_3 4 rfl rfl)
theorem dX0_anyBytes_77 : decode cX0_anyBytes 77 = .ok (.iastore, 1) := dk_79 (dk_at dksX0_anyBytes_3 7 rfl rfl)
theorem dX0_anyBytes_78 : decode cX0_anyBytes 78 = .ok (.dup, 1) := dk_89 (dk_at dksX0_anyBytes_3 8 rfl rfl)
theorem dX0_anyBytes_79 : decode cX0_anyBytes 79 = .ok (.bipush 12, 2) := dk_16 12 (dk_at dksX0_anyBytes_3 9 rfl rfl)
theorem dX0_anyBytes_81 : decode cX0_anyBytes 81 = .ok (.sipush 223, 3) := dk_17 0 223 (dk_at dksX0_anyBytes_3 11 rfl rfl)
theorem dX0_anyBytes_84 : decode cX0_anyBytes 84 = .ok (.iastore, 1) := dk_79 (dk_at dksX0_anyBytes_3 14 rfl rfl)
theorem dX0_anyBytes_85 : decode cX0_anyBytes 85 = .ok (.dup, 1) := dk_89 (dk_at dksX0_anyBytes_3 15 rfl rfl)
theorem dX0_anyBytes_86 : decode cX0_anyBytes 86 = .ok (.bipush 13, 2) := dk_16 13 (dk_at dksX0_anyBytes_3 16 rfl rfl)
theorem dX0_anyBytes_88 : decode cX0_anyBytes 88 = .ok (.sipush 224, 3) := dk_17 0 224 (dk_at dksX0_anyBytes_3 18 rfl rfl)
theorem dX0_anyBytes_91 : decode cX0_anyBytes 91 = .ok (.iastore, 1) := dk_79 (dk_at dksX0_anyBytes_3 21 rfl rfl)
theorem dX0_anyBytes_92 : decode cX0_anyBytes 92 = .ok (.dup, 1) := dk_89 (dk_at dksX0_anyBytes_3 22 rfl rfl)
theorem dX0_anyBytes_93 : decode cX0_anyBytes 93 = .ok (.bipush 14, 2) := dk_16 14 (dk_at dksX0_anyBytes_4 0 rfl rfl)
theorem dX0_anyBytes_95 : decode cX0_anyBytes 95 = .ok (.sipush 225, 3) := dk_17 0 225 (dk_at dksX0_anyBytes_4 2 rfl rfl)
theorem dX0_anyBytes_98 : decode cX0_anyBytes 98 = .ok (.iastore, 1) := dk_79 (dk_at dksX0_anyBytes_4 5 rfl rfl)
theorem dX0_anyBytes_99 : decode cX0_anyBytes 99 = .ok (.dup, 1) := dk_89 (dk_at dksX0_anyBytes_4 6 rfl rfl)
theorem dX0_anyBytes_100 : decode cX0_anyBytes 100 = .ok (.bipush 15, 2) := dk_16 15 (dk_at dksX0_anyBytes_4 7 rfl rfl)
theorem dX0_anyBytes_102 : decode cX0_anyBytes 102 = .ok (.sipush 236, 3) := dk_17 0 236 (dk_at dksX0_anyBytes_4 9 rfl rfl)
theorem dX0_anyBytes_105 : decode cX0_anyBytes 105 = .ok (.iastore, 1) := dk_79 (dk_at dksX0_anyBytes_4 12 rfl rfl)
theorem dX0_anyBytes_106 : decode cX0_anyBytes 106 = .ok (.dup, 1) := dk_89 (dk_at dksX0_anyBytes_4 13 rfl rfl)
theorem dX0_anyBytes_107 : decode cX0_anyBytes 107 = .ok (.bipush 16, 2) := dk_16 16 (dk_at dksX0_anyBytes_4 14 rfl rfl)
theorem dX0_anyBytes_109 : decode cX0_anyBytes 109 = .ok (.sipush 237, 3) := dk_17 0 237 (dk_at dksX0_anyBytes_4 16 rfl rfl)
theorem dX0_anyBytes_112 : decode cX0_anyBytes 112 = .ok (.iastore, 1) := dk_79 (dk_at dksX0_anyBytes_4 19 rfl rfl)
theorem dX0_anyBytes_113 : decode cX0_anyBytes 113 = .ok (.dup, 1) := dk_89 (dk_at dksX0_anyBytes_4 20 rfl rfl)
theorem dX0_anyBytes_114 : decode cX0_anyBytes 114 = .ok (.bipush 17, 2) := dk_16 17 (dk_at dksX0_anyBytes_4 21 rfl rfl)
theorem dX0_anyBytes_116 : decode cX0_anyBytes 116 = .ok (.sipush 238, 3) := dk_17 0 238 (dk_at dksX0_anyBytes_5 0 rfl rfl)
theorem dX0_anyBytes_119 : decode cX0_anyBytes 119 = .ok (.iastore, 1) := dk_79 (dk_at dksX0_anyBytes_5 3 rfl rfl)
theorem dX0_anyBytes_120 : decode cX0_anyBytes 120 = .ok (.dup, 1) := dk_89 (dk_at dksX0_anyBytes_5 4 rfl rfl)
theorem dX0_anyBytes_121 : decode cX0_anyBytes 121 = .ok (.bipush 18, 2) := dk_16 18 (dk_at dksX0_anyBytes_5 5 rfl rfl)
theorem dX0_anyBytes_123 : decode cX0_anyBytes 123 = .ok (.sipush 239, 3) := dk_17 0 239 (dk_at dksX0_anyBytes_5 7 rfl rfl)
theorem dX0_anyBytes_126 : decode cX0_anyBytes 126 = .ok (.iastore, 1) := dk_79 (dk_at dksX0_anyBytes_5 10 rfl rfl)
theorem dX0_anyBytes_127 : decode cX0_anyBytes 127 = .ok (.dup, 1) := dk_89 (dk_at dksX0_anyBytes_5 11 rfl rfl)
theorem dX0_anyBytes_128 : decode cX0_anyBytes 128 = .ok (.bipush 19, 2) := dk_16 19 (dk_at dksX0_anyBytes_5 12 rfl rfl)
theorem dX0_anyBytes_130 : decode cX0_anyBytes 130 = .ok (.sipush 240, 3) := dk_17 0 240 (dk_at dksX0_anyBytes_5 14 rfl rfl)
theorem dX0_anyBytes_133 : decode cX0_anyBytes 133 = .ok (.iastore, 1) := dk_79 (dk_at dksX0_anyBytes_5 17 rfl rfl)
theorem dX0_anyBytes_134 : decode cX0_anyBytes 134 = .ok (.dup, 1) := dk_89 (dk_at dksX0_anyBytes_5 18 rfl rfl)
theorem dX0_anyBytes_135 : decode cX0_anyBytes 135 = .ok (.bipush 20, 2) := dk_16 20 (dk_at dksX0_anyBytes_5 19 rfl rfl)
theorem dX0_anyBytes_137 : decode cX0_anyBytes 137 = .ok (.sipush 241, 3) := dk_17 0 241 (dk_at dksX0_anyBytes_5 21 rfl rfl)
theorem dX0_anyBytes_140 : decode cX0_anyBytes 140 = .ok (.iastore, 1) := dk_79 (dk_at dksX0_anyBytes_6 0 rfl rfl)
theorem dX0_anyBytes_141 : decode cX0_anyBytes 141 = .ok (.dup, 1) := dk_89 (dk_at dksX0_anyBytes_6 1 rfl rfl)
theorem dX0_anyBytes_142 : decode cX0_anyBytes 142 = .ok (.bipush 21, 2) := dk_16 21 (dk_at dksX0_anyBytes_6 2 rfl rfl)
theorem dX0_anyBytes_144 : decode cX0_anyBytes 144 = .ok (.sipush 243, 3) := dk_17 0 243 (dk_at dksX0_anyBytes_6 4 rfl rfl)
theorem dX0_anyBytes_147 : decode cX0_anyBytes 147 = .ok (.iastore, 1) := dk_79 (dk_at dksX0_anyBytes_6 7 rfl rfl)
theorem dX0_anyBytes_148 : decode cX0_anyBytes 148 = .ok (.dup, 1) := dk_89 (dk_at dksX0_anyBytes_6 8 rfl rfl)
theorem dX0_anyBytes_149 : decode cX0_anyBytes 149 = .ok (.bipush 22, 2) := dk_16 22 (dk_at dksX0_anyBytes_6 9 rfl rfl)
theorem dX0_anyBytes_151 : decode cX0_anyBytes 151 = .ok (.sipush 244, 3) := dk_17 0 244 (dk_at dksX0_anyBytes_6 11 rfl rfl)
theorem dX0_anyBytes_154 : decode cX0_anyBytes 154 = .ok (.iastore, 1) := dk_79 (dk_at dksX0_anyBytes_6 14 rfl rfl)
theorem dX0_anyBytes_155 : decode cX0_anyBytes 155 = .ok (.dup, 1) := dk_89 (dk_at dksX0_anyBytes_6 15 rfl rfl)
theorem dX0_anyBytes_156 : decode cX0_anyBytes 156 = .ok (.bipush 23, 2) := dk_16 23 (dk_at dksX0_anyBytes_6 16 rfl rfl)
theorem dX0_anyBytes_158 : decode cX0_anyBytes 158 = .ok (.sipush 245, 3) := dk_17 0 245 (dk_at dksX0_anyBytes_6 18 rfl rfl)
theorem dX0_anyBytes_161 : decode cX0_anyBytes 161 = .ok (.iastore, 1) := dk_79 (dk_at dksX0_anyBytes_6 21 rfl rfl)
theorem dX0_anyBytes_162 : decode cX0_anyBytes 162 = .ok (.dup, 1) := dk_89 (dk_at dksX0_anyBytes_6 22 rfl rfl)
theorem dX0_anyBytes_163 : decode cX0_anyBytes 163 = .ok (.bipush 24, 2) := dk_16 24 (dk_at dksX0_anyBytes_7 0 rfl rfl)
theorem dX0_anyBytes_165 : decode cX0_anyBytes 165 = .ok (.sipush 247, 3) := dk_17 0 247 (dk_at dksX0_anyBytes_7 2 rfl rfl)
theorem dX0_anyBytes_168 : decode cX0_anyBytes 168 = .ok (.iastore, 1) := dk_79 (dk_at dksX0_anyBytes_7 5 rfl rfl)
theorem dX0_anyBytes_169 : decode cX0_anyBytes 169 = .ok (.dup, 1) := dk_89 (dk_at dksX0_anyBytes_7 6 rfl rfl)
theorem dX0_anyBytes_170 : decode cX0_anyBytes 170 = .ok (.bipush 25, 2) := dk_16 25 (dk_at dksX0_anyBytes_7 7 rfl rfl)
theorem dX0_anyBytes_172 : decode cX0_anyBytes 172 = .ok (.sipush 248, 3) := dk_17 0 248 (dk_at dksX0_anyBytes_7 9 rfl rfl)
theorem dX0_anyBytes_175 : decode cX0_anyBytes 175 = .ok (.iastore, 1) := dk_79 (dk_at dksX0_anyBytes_7 12 rfl rfl)
theorem dX0_anyBytes_176 : decode cX0_anyBytes 176 = .ok (.dup, 1) := dk_89 (dk_at dksX0_anyBytes_7 13 rfl rfl)
theorem dX0_anyBytes_177 : decode cX0_anyBytes 177 = .ok (.bipush 26, 2) := dk_16 26 (dk_at dksX0_anyBytes_7 14 rfl rfl)
theorem dX0_anyBytes_179 : decode cX0_anyBytes 179 = .ok (.sipush 255, 3) := dk_17 0 255 (dk_at dksX0_anyBytes_7 16 rfl rfl)
theorem dX0_anyBytes_182 : decode cX0_anyBytes 182 = .ok (.iastore, 1) := dk_79 (dk_at dksX0_anyBytes_7 19 rfl rfl)
theorem dX0_anyBytes_183 : decode cX0_anyBytes 183 = .ok (.dup, 1) := dk_89 (dk_at dksX0_anyBytes_7 20 rfl rfl)
theorem dX0_anyBytes_184 : decode cX0_anyBytes 184 = .ok (.bipush 27, 2) := dk_16 27 (dk_at dksX0_anyBytes_7 21 rfl rfl)
theorem dX0_anyBytes_186 : decode cX0_anyBytes 186 = .ok (.sipush 128, 3) := dk_17 0 128 (dk_at dksX0_anyBytes_8 0 rfl rfl)
theorem dX0_anyBytes_189 : decode cX0_anyBytes 189 = .ok (.iastore, 1) := dk_79 (dk_at dksX0_anyBytes_8 3 rfl rfl)
theorem dX0_anyBytes_190 : decode cX0_anyBytes 190 = .ok (.dup, 1) := dk_89 (dk_at dksX0_anyBytes_8 4 rfl rfl)
theorem dX0_anyBytes_191 : decode cX0_anyBytes 191 = .ok (.bipush 28, 2) := dk_16 28 (dk_at dksX0_anyBytes_8 5 rfl rfl)
theorem dX0_anyBytes_193 : decode cX0_anyBytes 193 = .ok (.sipush 160, 3) := dk_17 0 160 (dk_at dksX0_anyBytes_8 7 rfl rfl)
theorem dX0_anyBytes_196 : decode cX0_anyBytes 196 = .ok (.iastore, 1) := dk_79 (dk_at dksX0_anyBytes_8 10 rfl rfl)
theorem dX0_anyBytes_197 : decode cX0_anyBytes 197 = .ok (.dup, 1) := dk_89 (dk_at dksX0_anyBytes_8 11 rfl rfl)
theorem dX0_anyBytes_198 : decode cX0_anyBytes 198 = .ok (.bipush 29, 2) := dk_16 29 (dk_at dksX0_anyBytes_8 12 rfl rfl)
theorem dX0_anyBytes_200 : decode cX0_anyBytes 200 = .ok (.sipush 191, 3) := dk_17 0 191 (dk_at dksX0_anyBytes_8 14 rfl rfl)
theorem dX0_anyBytes_203 : decode cX0_anyBytes 203 = .ok (.iastore, 1) := dk_79 (dk_at dksX0_anyBytes_8 17 rfl rfl)
theorem dX0_anyBytes_204 : decode cX0_anyBytes 204 = .ok (.dup, 1) := dk_89 (dk_at dksX0_anyBytes_8 18 rfl rfl)
theorem dX0_anyBytes_205 : decode cX0_anyBytes 205 = .ok (.bipush 30, 2) := dk_16 30 (dk_at dksX0_anyBytes_8 19 rfl rfl)
theorem dX0_anyBytes_207 : decode cX0_anyBytes 207 = .ok (.sipush 144, 3) := dk_17 0 144 (dk_at dksX0_anyBytes_8 21 rfl rfl)
theorem dX0_anyBytes_210 : decode cX0_anyBytes 210 = .ok (.iastore, 1) := dk_79 (dk_at dksX0_anyBytes_9 0 rfl rfl)
theorem dX0_anyBytes_211 : decode cX0_anyBytes 211 = .ok (.dup, 1) := dk_89 (dk_at dksX0_anyBytes_9 1 rfl rfl)
theorem dX0_anyBytes_212 : decode cX0_anyBytes 212 = .ok (.bipush 31, 2) := dk_16 31 (dk_at dksX0_anyBytes_9 2 rfl rfl)
theorem dX0_anyBytes_214 : decode cX0_anyBytes 214 = .ok (.sipush 159, 3) := dk_17 0 159 (dk_at dksX0_anyBytes_9 4 rfl rfl)
theorem dX0_anyBytes_217 : decode cX0_anyBytes 217 = .ok (.iastore, 1) := dk_79 (dk_at dksX0_anyBytes_9 7 rfl rfl)
theorem dX0_anyBytes_218 : decode cX0_anyBytes 218 = .ok (.astore_n 1, 1) := dk_76 (dk_at dksX0_anyBytes_9 8 rfl rfl)
theorem dX0_anyBytes_219 : decode cX0_anyBytes 219 = .ok (.bipush 40, 2) := dk_16 40 (dk_at dksX0_anyBytes_9 9 rfl rfl)
theorem dX0_anyBytes_221 : decode cX0_anyBytes 221 = .ok (.newarray .int, 2) := dk_188_10 (dk_at dksX0_anyBytes_9 11 rfl rfl)
theorem dX0_anyBytes_223 : decode cX0_anyBytes 223 = .ok (.astore_n 2, 1) := dk_77 (dk_at dksX0_anyBytes_9 13 rfl rfl)
theorem dX0_anyBytes_224 : decode cX0_anyBytes 224 = .ok (.bipush 80, 2) := dk_16 80 (dk_at dksX0_anyBytes_9 14 rfl rfl)
theorem dX0_anyBytes_226 : decode cX0_anyBytes 226 = .ok (.newarray .int, 2) := dk_188_10 (dk_at dksX0_anyBytes_9 16 rfl rfl)
theorem dX0_anyBytes_228 : decode cX0_anyBytes 228 = .ok (.astore_n 3, 1) := dk_78 (dk_at dksX0_anyBytes_9 18 rfl rfl)
theorem dX0_anyBytes_229 : decode cX0_anyBytes 229 = .ok (.new 12, 3) := dk_187 0 12 (dk_at dksX0_anyBytes_9 19 rfl rfl)
theorem dX0_anyBytes_232 : decode cX0_anyBytes 232 = .ok (.dup, 1) := dk_89 (dk_at dksX0_anyBytes_9 22 rfl rfl)
theorem dX0_anyBytes_233 : decode cX0_anyBytes 233 = .ok (.invokespecial 14, 3) := dk_183 0 14 (dk_at dksX0_anyBytes_10 0 rfl rfl)
theorem dX0_anyBytes_236 : decode cX0_anyBytes 236 = .ok (.astore 4, 2) := dk_58 4 (dk_at dksX0_anyBytes_10 3 rfl rfl)
theorem dX0_anyBytes_238 : decode cX0_anyBytes 238 = .ok (.iconst 0, 1) := dk_3 (dk_at dksX0_anyBytes_10 5 rfl rfl)
theorem dX0_anyBytes_239 : decode cX0_anyBytes 239 = .ok (.istore 5, 2) := dk_54 5 (dk_at dksX0_anyBytes_10 6 rfl rfl)
theorem dX0_anyBytes_241 : decode cX0_anyBytes 241 = .ok (.iload 5, 2) := dk_21 5 (dk_at dksX0_anyBytes_10 8 rfl rfl)
theorem dX0_anyBytes_243 : decode cX0_anyBytes 243 = .ok (.bipush 40, 2) := dk_16 40 (dk_at dksX0_anyBytes_10 10 rfl rfl)
theorem dX0_anyBytes_245 : decode cX0_anyBytes 245 = .ok (.if_icmp .ge 24, 3) := dk_162 0 24 (dk_at dksX0_anyBytes_10 12 rfl rfl)
theorem dX0_anyBytes_248 : decode cX0_anyBytes 248 = .ok (.aload 4, 2) := dk_25 4 (dk_at dksX0_anyBytes_10 15 rfl rfl)
theorem dX0_anyBytes_250 : decode cX0_anyBytes 250 = .ok (.iconst 0, 1) := dk_3 (dk_at dksX0_anyBytes_10 17 rfl rfl)
theorem dX0_anyBytes_251 : decode cX0_anyBytes 251 = .ok (.invokevirtual 15, 3) := dk_182 0 15 (dk_at dksX0_anyBytes_10 18 rfl rfl)
theorem dX0_anyBytes_254 : decode cX0_anyBytes 254 = .ok (.iload 5, 2) := dk_21 5 (dk_at dksX0_anyBytes_10 21 rfl rfl)
theorem dX0_anyBytes_256 : decode cX0_anyBytes 256 = .ok (.iconst 1, 1) := dk_4 (dk_at dksX0_anyBytes_10 23 rfl rfl)
theorem dX0_anyBytes_257 : decode cX0_anyBytes 257 = .ok (.iadd, 1) := dk_96 (dk_at dksX0_anyBytes_11 0 rfl rfl)
theorem dX0_anyBytes_258 : decode cX0_anyBytes 258 = .ok (.if_icmp .eq 5, 3) := dk_159 0 5 (dk_at dksX0_anyBytes_11 1 rfl rfl)
theorem dX0_anyBytes_261 : decode cX0_anyBytes 261 = .ok (.iconst 0, 1) := dk_3 (dk_at dksX0_anyBytes_11 4 rfl rfl)
theorem dX0_anyBytes_262 : decode cX0_anyBytes 262 = .ok (.ireturn, 1) := dk_172 (dk_at dksX0_anyBytes_11 5 rfl rfl)
theorem dX0_anyBytes_263 : decode cX0_anyBytes 263 = .ok (.iinc 5 1, 3) := dk_132 5 1 (dk_at dksX0_anyBytes_11 6 rfl rfl)
theorem dX0_anyBytes_266 : decode cX0_anyBytes 266 = .ok (.goto (-25), 3) := dk_167 255 231 (dk_at dksX0_anyBytes_11 9 rfl rfl)
theorem dX0_anyBytes_269 : decode cX0_anyBytes 269 = .ok (.iconst 0, 1) := dk_3 (dk_at dksX0_anyBytes_11 12 rfl rfl)
theorem dX0_anyBytes_270 : decode cX0_anyBytes 270 = .ok (.istore 5, 2) := dk_54 5 (dk_at dksX0_anyBytes_11 13 rfl rfl)
theorem dX0_anyBytes_272 : decode cX0_anyBytes 272 = .ok (.iload 5, 2) := dk_21 5 (dk_at dksX0_anyBytes_11 15 rfl rfl)
theorem dX0_anyBytes_274 : decode cX0_anyBytes 274 = .ok (.bipush 40, 2) := dk_16 40 (dk_at dksX0_anyBytes_11 17 rfl rfl)
theorem dX0_anyBytes_276 : decode cX0_anyBytes 276 = .ok (.if_icmp .ge 55, 3) := dk_162 0 55 (dk_at dksX0_anyBytes_11 19 rfl rfl)
theorem dX0_anyBytes_279 : decode cX0_anyBytes 279 = .ok (.aload_n 0, 1) := dk_42 (dk_at dksX0_anyBytes_11 22 rfl rfl)
theorem dX0_anyBytes_280 : decode cX0_anyBytes 280 = .ok (.iload 5, 2) := dk_21 5 (dk_at dksX0_anyBytes_12 0 rfl rfl)
theorem dX0_anyBytes_282 : decode cX0_anyBytes 282 = .ok (.invokestatic 19, 3) := dk_184 0 19 (dk_at dksX0_anyBytes_12 2 rfl rfl)
theorem dX0_anyBytes_285 : decode cX0_anyBytes 285 = .ok (.bipush 7, 2) := dk_16 7 (dk_at dksX0_anyBytes_12 5 rfl rfl)
theorem dX0_anyBytes_287 : decode cX0_anyBytes 287 = .ok (.iload 5, 2) := dk_21 5 (dk_at dksX0_anyBytes_12 7 rfl rfl)
theorem dX0_anyBytes_289 : decode cX0_anyBytes 289 = .ok (.imul, 1) := dk_104 (dk_at dksX0_anyBytes_12 9 rfl rfl)
theorem dX0_anyBytes_290 : decode cX0_anyBytes 290 = .ok (.iadd, 1) := dk_96 (dk_at dksX0_anyBytes_12 10 rfl rfl)
theorem dX0_anyBytes_291 : decode cX0_anyBytes 291 = .ok (.istore 6, 2) := dk_54 6 (dk_at dksX0_anyBytes_12 11 rfl rfl)
theorem dX0_anyBytes_293 : decode cX0_anyBytes 293 = .ok (.aload_n 2, 1) := dk_44 (dk_at dksX0_anyBytes_12 13 rfl rfl)
theorem dX0_anyBytes_294 : decode cX0_anyBytes 294 = .ok (.iload 5, 2) := dk_21 5 (dk_at dksX0_anyBytes_12 14 rfl rfl)
theorem dX0_anyBytes_296 : decode cX0_anyBytes 296 = .ok (.aload_n 1, 1) := dk_43 (dk_at dksX0_anyBytes_12 16 rfl rfl)
theorem dX0_anyBytes_297 : decode cX0_anyBytes 297 = .ok (.iload 6, 2) := dk_21 6 (dk_at dksX0_anyBytes_12 17 rfl rfl)
theorem dX0_anyBytes_299 : decode cX0_anyBytes 299 = .ok (.bipush 31, 2) := dk_16 31 (dk_at dksX0_anyBytes_12 19 rfl rfl)
theorem dX0_anyBytes_301 : decode cX0_anyBytes 301 = .ok (.iand, 1) := dk_126 (dk_at dksX0_anyBytes_12 21 rfl rfl)
theorem dX0_anyBytes_302 : decode cX0_anyBytes 302 = .ok (.iaload, 1) := dk_46 (dk_at dksX0_anyBytes_12 22 rfl rfl)
theorem dX0_anyBytes_303 : decode cX0_anyBytes 303 = .ok (.iastore, 1) := dk_79 (dk_at dksX0_anyBytes_12 23 rfl rfl)
theorem dX0_anyBytes_304 : decode cX0_anyBytes 304 = .ok (.aload 4, 2) := dk_25 4 (dk_at dksX0_anyBytes_13 0 rfl rfl)
theorem dX0_anyBytes_306 : decode cX0_anyBytes 306 = .ok (.iload 5, 2) := dk_21 5 (dk_at dksX0_anyBytes_13 2 rfl rfl)
theorem dX0_anyBytes_308 : decode cX0_anyBytes 308 = .ok (.bipush 40, 2) := dk_16 40 (dk_at dksX0_anyBytes_13 4 rfl rfl)
theorem dX0_anyBytes_310 : decode cX0_anyBytes 310 = .ok (.iadd, 1) := dk_96 (dk_at dksX0_anyBytes_13 6 rfl rfl)
theorem dX0_anyBytes_311 : decode cX0_anyBytes 311 = .ok (.aload_n 2, 1) := dk_44 (dk_at dksX0_anyBytes_13 7 rfl rfl)
theorem dX0_anyBytes_312 : decode cX0_anyBytes 312 = .ok (.iload 5, 2) := dk_21 5 (dk_at dksX0_anyBytes_13 8 rfl rfl)
theorem dX0_anyBytes_314 : decode cX0_anyBytes 314 = .ok (.iaload, 1) := dk_46 (dk_at dksX0_anyBytes_13 10 rfl rfl)
theorem dX0_anyBytes_315 : decode cX0_anyBytes 315 = .ok (.iload 6, 2) := dk_21 6 (dk_at dksX0_anyBytes_13 11 rfl rfl)
theorem dX0_anyBytes_317 : decode cX0_anyBytes 317 = .ok (.sipush (-256), 3) := dk_17 255 0 (dk_at dksX0_anyBytes_13 13 rfl rfl)
theorem dX0_anyBytes_320 : decode cX0_anyBytes 320 = .ok (.iand, 1) := dk_126 (dk_at dksX0_anyBytes_13 16 rfl rfl)
theorem dX0_anyBytes_321 : decode cX0_anyBytes 321 = .ok (.ior, 1) := dk_128 (dk_at dksX0_anyBytes_13 17 rfl rfl)
theorem dX0_anyBytes_322 : decode cX0_anyBytes 322 = .ok (.invokevirtual 25, 3) := dk_182 0 25 (dk_at dksX0_anyBytes_13 18 rfl rfl)
theorem dX0_anyBytes_325 : decode cX0_anyBytes 325 = .ok (.iinc 5 1, 3) := dk_132 5 1 (dk_at dksX0_anyBytes_13 21 rfl rfl)
theorem dX0_anyBytes_328 : decode cX0_anyBytes 328 = .ok (.goto (-56), 3) := dk_167 255 200 (dk_at dksX0_anyBytes_14 0 rfl rfl)
theorem dX0_anyBytes_331 : decode cX0_anyBytes 331 = .ok (.iconst 0, 1) := dk_3 (dk_at dksX0_anyBytes_14 3 rfl rfl)
theorem dX0_anyBytes_332 : decode cX0_anyBytes 332 = .ok (.istore 5, 2) := dk_54 5 (dk_at dksX0_anyBytes_14 4 rfl rfl)
theorem dX0_anyBytes_334 : decode cX0_anyBytes 334 = .ok (.iload 5, 2) := dk_21 5 (dk_at dksX0_anyBytes_14 6 rfl rfl)
theorem dX0_anyBytes_336 : decode cX0_anyBytes 336 = .ok (.bipush 40, 2) := dk_16 40 (dk_at dksX0_anyBytes_14 8 rfl rfl)
theorem dX0_anyBytes_338 : decode cX0_anyBytes 338 = .ok (.if_icmp .gt 135, 3) := dk_163 0 135 (dk_at dksX0_anyBytes_14 10 rfl rfl)
theorem dX0_anyBytes_341 : decode cX0_anyBytes 341 = .ok (.iconst 0, 1) := dk_3 (dk_at dksX0_anyBytes_14 13 rfl rfl)
theorem dX0_anyBytes_342 : decode cX0_anyBytes 342 = .ok (.istore 6, 2) := dk_54 6 (dk_at dksX0_anyBytes_14 14 rfl rfl)
theorem dX0_anyBytes_344 : decode cX0_anyBytes 344 = .ok (.iload 6, 2) := dk_21 6 (dk_at dksX0_anyBytes_14 16 rfl rfl)
theorem dX0_anyBytes_346 : decode cX0_anyBytes 346 = .ok (.bipush 6, 2) := dk_16 6 (dk_at dksX0_anyBytes_14 18 rfl rfl)
theorem dX0_anyBytes_348 : decode cX0_anyBytes 348 = .ok (.if_icmp .gt 119, 3) := dk_163 0 119 (dk_at dksX0_anyBytes_14 20 rfl rfl)
theorem dX0_anyBytes_351 : decode cX0_anyBytes 351 = .ok (.iload 5, 2) := dk_21 5 (dk_at dksX0_anyBytes_15 0 rfl rfl)
theorem dX0_anyBytes_353 : decode cX0_anyBytes 353 = .ok (.iload 6, 2) := dk_21 6 (dk_at dksX0_anyBytes_15 2 rfl rfl)
theorem dX0_anyBytes_355 : decode cX0_anyBytes 355 = .ok (.iadd, 1) := dk_96 (dk_at dksX0_anyBytes_15 4 rfl rfl)
theorem dX0_anyBytes_356 : decode cX0_anyBytes 356 = .ok (.bipush 40, 2) := dk_16 40 (dk_at dksX0_anyBytes_15 5 rfl rfl)
theorem dX0_anyBytes_358 : decode cX0_anyBytes 358 = .ok (.if_icmp .gt 109, 3) := dk_163 0 109 (dk_at dksX0_anyBytes_15 7 rfl rfl)
theorem dX0_anyBytes_361 : decode cX0_anyBytes 361 = .ok (.aload_n 2, 1) := dk_44 (dk_at dksX0_anyBytes_15 10 rfl rfl)
theorem dX0_anyBytes_362 : decode cX0_anyBytes 362 = .ok (.iload 5, 2) := dk_21 5 (dk_at dksX0_anyBytes_15 11 rfl rfl)
theorem dX0_anyBytes_364 : decode cX0_anyBytes 364 = .ok (.iload 5, 2) := dk_21 5 (dk_at dksX0_anyBytes_15 13 rfl rfl)
theorem dX0_anyBytes_366 : decode cX0_anyBytes 366 = .ok (.iload 6, 2) := dk_21 6 (dk_at dksX0_anyBytes_15 15 rfl rfl)
theorem dX0_anyBytes_368 : decode cX0_anyBytes 368 = .ok (.iadd, 1) := dk_96 (dk_at dksX0_anyBytes_15 17 rfl rfl)
theorem dX0_anyBytes_369 : decode cX0_anyBytes 369 = .ok (.aload_n 3, 1) := dk_45 (dk_at dksX0_anyBytes_15 18 rfl rfl)
theorem dX0_anyBytes_370 : decode cX0_anyBytes 370 = .ok (.invokestatic 29, 3) := dk_184 0 29 (dk_at dksX0_anyBytes_15 19 rfl rfl)
theorem dX0_anyBytes_373 : decode cX0_anyBytes 373 = .ok (.istore 7, 2) := dk_54 7 (dk_at dksX0_anyBytes_15 22 rfl rfl)
theorem dX0_anyBytes_375 : decode cX0_anyBytes 375 = .ok (.aload 4, 2) := dk_25 4 (dk_at dksX0_anyBytes_16 0 rfl rfl)
theorem dX0_anyBytes_377 : decode cX0_anyBytes 377 = .ok (.iload 5, 2) := dk_21 5 (dk_at dksX0_anyBytes_16 2 rfl rfl)
theorem dX0_anyBytes_379 : decode cX0_anyBytes 379 = .ok (.iload 6, 2) := dk_21 6 (dk_at dksX0_anyBytes_16 4 rfl rfl)
theorem dX0_anyBytes_381 : decode cX0_anyBytes 381 = .ok (.invokevirtual 33, 3) := dk_182 0 33 (dk_at dksX0_anyBytes_16 6 rfl rfl)
theorem dX0_anyBytes_384 : decode cX0_anyBytes 384 = .ok (.iload 7, 2) := dk_21 7 (dk_at dksX0_anyBytes_16 9 rfl rfl)
theorem dX0_anyBytes_386 : decode cX0_anyBytes 386 = .ok (.if_icmp .ne 24, 3) := dk_160 0 24 (dk_at dksX0_anyBytes_16 11 rfl rfl)
theorem dX0_anyBytes_389 : decode cX0_anyBytes 389 = .ok (.aload 4, 2) := dk_25 4 (dk_at dksX0_anyBytes_16 14 rfl rfl)
theorem dX0_anyBytes_391 : decode cX0_anyBytes 391 = .ok (.iconst 0, 1) := dk_3 (dk_at dksX0_anyBytes_16 16 rfl rfl)
theorem dX0_anyBytes_392 : decode cX0_anyBytes 392 = .ok (.invokevirtual 37, 3) := dk_182 0 37 (dk_at dksX0_anyBytes_16 17 rfl rfl)
theorem dX0_anyBytes_395 : decode cX0_anyBytes 395 = .ok (.iload 7, 2) := dk_21 7 (dk_at dksX0_anyBytes_16 20 rfl rfl)
theorem dX0_anyBytes_397 : decode cX0_anyBytes 397 = .ok (.ifCond .le 9, 3) := dk_158 0 9 (dk_at dksX0_anyBytes_17 0 rfl rfl)
theorem dX0_anyBytes_400 : decode cX0_anyBytes 400 = .ok (.aload_n 3, 1) := dk_45 (dk_at dksX0_anyBytes_17 3 rfl rfl)
theorem dX0_anyBytes_401 : decode cX0_anyBytes 401 = .ok (.iconst 0, 1) := dk_3 (dk_at dksX0_anyBytes_17 4 rfl rfl)
theorem dX0_anyBytes_402 : decode cX0_anyBytes 402 = .ok (.iaload, 1) := dk_46 (dk_at dksX0_anyBytes_17 5 rfl rfl)
theorem dX0_anyBytes_403 : decode cX0_anyBytes 403 = .ok (.goto 4, 3) := dk_167 0 4 (dk_at dksX0_anyBytes_17 6 rfl rfl)
theorem dX0_anyBytes_406 : decode cX0_anyBytes 406 = .ok (.iconst (-1), 1) := dk_2 (dk_at dksX0_anyBytes_17 9 rfl rfl)
theorem dX0_anyBytes_407 : decode cX0_anyBytes 407 = .ok (.if_icmp .eq 5, 3) := dk_159 0 5 (dk_at dksX0_anyBytes_17 10 rfl rfl)
theorem dX0_anyBytes_410 : decode cX0_anyBytes 410 = .ok (.iconst 0, 1) := dk_3 (dk_at dksX0_anyBytes_17 13 rfl rfl)
theorem dX0_anyBytes_411 : decode cX0_anyBytes 411 = .ok (.ireturn, 1) := dk_172 (dk_at dksX0_anyBytes_17 14 rfl rfl)
theorem dX0_anyBytes_412 : decode cX0_anyBytes 412 = .ok (.iconst 0, 1) := dk_3 (dk_at dksX0_anyBytes_17 15 rfl rfl)
theorem dX0_anyBytes_413 : decode cX0_anyBytes 413 = .ok (.istore 8, 2) := dk_54 8 (dk_at dksX0_anyBytes_17 16 rfl rfl)
theorem dX0_anyBytes_415 : decode cX0_anyBytes 415 = .ok (.iload 8, 2) := dk_21 8 (dk_at dksX0_anyBytes_17 18 rfl rfl)
theorem dX0_anyBytes_417 : decode cX0_anyBytes 417 = .ok (.iload 7, 2) := dk_21 7 (dk_at dksX0_anyBytes_17 20 rfl rfl)
theorem dX0_anyBytes_419 : decode cX0_anyBytes 419 = .ok (.if_icmp .ge 42, 3) := dk_162 0 42 (dk_at dksX0_anyBytes_18 0 rfl rfl)
theorem dX0_anyBytes_422 : decode cX0_anyBytes 422 = .ok (.aload 4, 2) := dk_25 4 (dk_at dksX0_anyBytes_18 3 rfl rfl)
theorem dX0_anyBytes_424 : decode cX0_anyBytes 424 = .ok (.iload 8, 2) := dk_21 8 (dk_at dksX0_anyBytes_18 5 rfl rfl)
theorem dX0_anyBytes_426 : decode cX0_anyBytes 426 = .ok (.invokevirtual 37, 3) := dk_182 0 37 (dk_at dksX0_anyBytes_18 7 rfl rfl)
theorem dX0_anyBytes_429 : decode cX0_anyBytes 429 = .ok (.aload_n 3, 1) := dk_45 (dk_at dksX0_anyBytes_18 10 rfl rfl)
theorem dX0_anyBytes_430 : decode cX0_anyBytes 430 = .ok (.iload 8, 2) := dk_21 8 (dk_at dksX0_anyBytes_18 11 rfl rfl)
theorem dX0_anyBytes_432 : decode cX0_anyBytes 432 = .ok (.iaload, 1) := dk_46 (dk_at dksX0_anyBytes_18 13 rfl rfl)
theorem dX0_anyBytes_433 : decode cX0_anyBytes 433 = .ok (.if_icmp .ne 20, 3) := dk_160 0 20 (dk_at dksX0_anyBytes_18 14 rfl rfl)
theorem dX0_anyBytes_436 : decode cX0_anyBytes 436 = .ok (.aload 4, 2) := dk_25 4 (dk_at dksX0_anyBytes_18 17 rfl rfl)
theorem dX0_anyBytes_438 : decode cX0_anyBytes 438 = .ok (.iload 8, 2) := dk_21 8 (dk_at dksX0_anyBytes_18 19 rfl rfl)
theorem dX0_anyBytes_440 : decode cX0_anyBytes 440 = .ok (.iload 7, 2) := dk_21 7 (dk_at dksX0_anyBytes_18 21 rfl rfl)
theorem dX0_anyBytes_442 : decode cX0_anyBytes 442 = .ok (.iadd, 1) := dk_96 (dk_at dksX0_anyBytes_18 23 rfl rfl)
theorem dX0_anyBytes_443 : decode cX0_anyBytes 443 = .ok (.invokevirtual 37, 3) := dk_182 0 37 (dk_at dksX0_anyBytes_19 0 rfl rfl)
theorem dX0_anyBytes_446 : decode cX0_anyBytes 446 = .ok (.aload_n 3, 1) := dk_45 (dk_at dksX0_anyBytes_19 3 rfl rfl)
theorem dX0_anyBytes_447 : decode cX0_anyBytes 447 = .ok (.iload 8, 2) := dk_21 8 (dk_at dksX0_anyBytes_19 4 rfl rfl)
theorem dX0_anyBytes_449 : decode cX0_anyBytes 449 = .ok (.iaload, 1) := dk_46 (dk_at dksX0_anyBytes_19 6 rfl rfl)
theorem dX0_anyBytes_450 : decode cX0_anyBytes 450 = .ok (.if_icmp .eq 5, 3) := dk_159 0 5 (dk_at dksX0_anyBytes_19 7 rfl rfl)
theorem dX0_anyBytes_453 : decode cX0_anyBytes 453 = .ok (.iconst 0, 1) := dk_3 (dk_at dksX0_anyBytes_19 10 rfl rfl)
theorem dX0_anyBytes_454 : decode cX0_anyBytes 454 = .ok (.ireturn, 1) := dk_172 (dk_at dksX0_anyBytes_19 11 rfl rfl)
theorem dX0_anyBytes_455 : decode cX0_anyBytes 455 = .ok (.iinc 8 1, 3) := dk_132 8 1 (dk_at dksX0_anyBytes_19 12 rfl rfl)
theorem dX0_anyBytes_458 : decode cX0_anyBytes 458 = .ok (.goto (-43), 3) := dk_167 255 213 (dk_at dksX0_anyBytes_19 15 rfl rfl)
theorem dX0_anyBytes_461 : decode cX0_anyBytes 461 = .ok (.iinc 6 1, 3) := dk_132 6 1 (dk_at dksX0_anyBytes_19 18 rfl rfl)
theorem dX0_anyBytes_464 : decode cX0_anyBytes 464 = .ok (.goto (-120), 3) := dk_167 255 136 (dk_at dksX0_anyBytes_19 21 rfl rfl)
theorem dX0_anyBytes_467 : decode cX0_anyBytes 467 = .ok (.iinc 5 1, 3) := dk_132 5 1 (dk_at dksX0_anyBytes_20 0 rfl rfl)
theorem dX0_anyBytes_470 : decode cX0_anyBytes 470 = .ok (.goto (-136), 3) := dk_167 255 120 (dk_at dksX0_anyBytes_20 3 rfl rfl)
theorem dX0_anyBytes_473 : decode cX0_anyBytes 473 = .ok (.iconst 1, 1) := dk_4 (dk_at dksX0_anyBytes_20 6 rfl rfl)
theorem dX0_anyBytes_474 : decode cX0_anyBytes 474 = .ok (.ireturn, 1) := dk_172 (dk_at dksX0_anyBytes_20 7 rfl rfl)
abbrev cX0_cell : ByteArray := method_2_code
def yX0_cell : MethodName := ⟨RX0, "cell", "([II)I"⟩
def dkwX0_cell_0 : List UInt8 := [27, 42, 190, 162, 0, 9, 42, 27, 46, 167, 0, 4, 3, 172]
abbrev dktX0_cell_0 : List UInt8 := dkwX0_cell_0 ++ []
theorem dksX0_cell_0 : cX0_cell.data.toList.drop 0 = dktX0_cell_0 := by decide +kernel
theorem dX0_cell_0 : decode cX0_cell 0 = .ok (.iload_n 1, 1) := dk_27 (dk_at dksX0_cell_0 0 rfl rfl)
theorem dX0_cell_1 : decode cX0_cell 1 = .ok (.aload_n 0, 1) := dk_42 (dk_at dksX0_cell_0 1 rfl rfl)
theorem dX0_cell_2 : decode cX0_cell 2 = .ok (.arraylength, 1) := dk_190 (dk_at dksX0_cell_0 2 rfl rfl)
theorem dX0_cell_3 : decode cX0_cell 3 = .ok (.if_icmp .ge 9, 3) := dk_162 0 9 (dk_at dksX0_cell_0 3 rfl rfl)
theorem dX0_cell_6 : decode cX0_cell 6 = .ok (.aload_n 0, 1) := dk_42 (dk_at dksX0_cell_0 6 rfl rfl)
theorem dX0_cell_7 : decode cX0_cell 7 = .ok (.iload_n 1, 1) := dk_27 (dk_at dksX0_cell_0 7 rfl rfl)
theorem dX0_cell_8 : decode cX0_cell 8 = .ok (.iaload, 1) := dk_46 (dk_at dksX0_cell_0 8 rfl rfl)
theorem dX0_cell_9 : decode cX0_cell 9 = .ok (.goto 4, 3) := dk_167 0 4 (dk_at dksX0_cell_0 9 rfl rfl)
theorem dX0_cell_12 : decode cX0_cell 12 = .ok (.iconst 0, 1) := dk_3 (dk_at dksX0_cell_0 12 rfl rfl)
theorem dX0_cell_13 : decode cX0_cell 13 = .ok (.ireturn, 1) := dk_172 (dk_at dksX0_cell_0 13 rfl rfl)
abbrev cX0_units : ByteArray := method_4_code
def yX0_units : MethodName := ⟨RX0, "units", "([III[I)I"⟩
def dkwX0_units_15 : List UInt8 := [21, 4, 21, 7, 4, 96, 96, 54, 4, 167, 254, 164, 21, 5, 172]
abbrev dktX0_units_15 : List UInt8 := dkwX0_units_15 ++ []
def dkwX0_units_14 : List UInt8 := [122, 96, 79, 45, 21, 5, 4, 96, 18, 11, 21, 8, 18, 10, 100, 17, 3, 255, 126, 96, 79, 132, 5, 2]
abbrev dktX0_units_14 : List UInt8 := dkwX0_units_14 ++ dktX0_units_15
def dkwX0_units_13 : List UInt8 := [45, 21, 5, 21, 8, 79, 132, 5, 1, 167, 0, 39, 45, 21, 5, 18, 9, 21, 8, 18, 10, 100, 16, 10]
abbrev dktX0_units_13 : List UInt8 := dkwX0_units_13 ++ dktX0_units_14
def dkwX0_units_12 : List UInt8 := [16, 6, 120, 21, 10, 16, 63, 126, 128, 54, 8, 132, 9, 1, 167, 255, 118, 21, 8, 18, 10, 162, 0, 15]
abbrev dktX0_units_12 : List UInt8 := dkwX0_units_12 ++ dktX0_units_13
def dkwX0_units_11 : List UInt8 := [17, 0, 191, 54, 12, 21, 10, 21, 11, 161, 0, 10, 21, 10, 21, 12, 164, 0, 5, 2, 172, 21, 8]
abbrev dktX0_units_11 : List UInt8 := dkwX0_units_11 ++ dktX0_units_12
def dkwX0_units_10 : List UInt8 := [160, 0, 9, 17, 0, 159, 167, 0, 20, 21, 6, 17, 0, 244, 160, 0, 9, 17, 0, 143, 167, 0, 6]
abbrev dktX0_units_10 : List UInt8 := dkwX0_units_10 ++ dktX0_units_11
def dkwX0_units_9 : List UInt8 := [17, 0, 128, 54, 11, 21, 9, 4, 164, 0, 9, 17, 0, 191, 167, 0, 34, 21, 6, 17, 0, 237]
abbrev dktX0_units_9 : List UInt8 := dkwX0_units_9 ++ dktX0_units_10
def dkwX0_units_8 : List UInt8 := [160, 0, 9, 17, 0, 160, 167, 0, 20, 21, 6, 17, 0, 240, 160, 0, 9, 17, 0, 144, 167, 0, 6]
abbrev dktX0_units_8 : List UInt8 := dkwX0_units_8 ++ dktX0_units_9
def dkwX0_units_7 : List UInt8 := [21, 9, 96, 46, 54, 10, 21, 9, 4, 164, 0, 9, 17, 0, 128, 167, 0, 34, 21, 6, 17, 0, 224]
abbrev dktX0_units_7 : List UInt8 := dkwX0_units_7 ++ dktX0_units_8
def dkwX0_units_6 : List UInt8 := [167, 0, 8, 21, 6, 16, 7, 126, 54, 8, 4, 54, 9, 21, 9, 21, 7, 163, 0, 137, 42, 21, 4]
abbrev dktX0_units_6 : List UInt8 := dkwX0_units_6 ++ dktX0_units_7
def dkwX0_units_5 : List UInt8 := [160, 0, 11, 21, 6, 16, 31, 126, 167, 0, 22, 21, 7, 5, 160, 0, 11, 21, 6, 16, 15, 126]
abbrev dktX0_units_5 : List UInt8 := dkwX0_units_5 ++ dktX0_units_6
def dkwX0_units_4 : List UInt8 := [21, 7, 96, 28, 161, 0, 5, 2, 172, 21, 7, 154, 0, 8, 21, 6, 167, 0, 36, 21, 7, 4]
abbrev dktX0_units_4 : List UInt8 := dkwX0_units_4 ++ dktX0_units_5
def dkwX0_units_3 : List UInt8 := [17, 0, 245, 162, 0, 7, 6, 167, 0, 5, 16, 9, 54, 7, 21, 7, 16, 9, 159, 0, 12, 21, 4]
abbrev dktX0_units_3 : List UInt8 := dkwX0_units_3 ++ dktX0_units_4
def dkwX0_units_2 : List UInt8 := [17, 0, 224, 162, 0, 7, 4, 167, 0, 29, 21, 6, 17, 0, 240, 162, 0, 7, 5, 167, 0, 17, 21, 6]
abbrev dktX0_units_2 : List UInt8 := dkwX0_units_2 ++ dktX0_units_3
def dkwX0_units_1 : List UInt8 := [162, 0, 7, 3, 167, 0, 54, 21, 6, 17, 0, 194, 162, 0, 8, 16, 9, 167, 0, 41, 21, 6]
abbrev dktX0_units_1 : List UInt8 := dkwX0_units_1 ++ dktX0_units_2
def dkwX0_units_0 : List UInt8 := [27, 54, 4, 3, 54, 5, 21, 4, 28, 162, 1, 92, 42, 21, 4, 46, 54, 6, 21, 6, 17, 0, 128]
abbrev dktX0_units_0 : List UInt8 := dkwX0_units_0 ++ dktX0_units_1
theorem dksX0_units_0 : cX0_units.data.toList.drop 0 = dktX0_units_0 := by decide +kernel
theorem dksX0_units_1 : cX0_units.data.toList.drop 23 = dktX0_units_1 := dk_seg dksX0_units_0 23 rfl rfl
theorem dksX0_units_2 : cX0_units.data.toList.drop 45 = dktX0_units_2 := dk_seg dksX0_units_1 22 rfl rfl
theorem dksX0_units_3 : cX0_units.data.toList.drop 69 = dktX0_units_3 := dk_seg dksX0_units_2 24 rfl rfl
theorem dksX0_units_4 : cX0_units.data.toList.drop 92 = dktX0_units_4 := dk_seg dksX0_units_3 23 rfl rfl
theorem dksX0_units_5 : cX0_units.data.toList.drop 114 = dktX0_units_5 := dk_seg dksX0_units_4 22 rfl rfl
theorem dksX0_units_6 : cX0_units.data.toList.drop 136 = dktX0_units_6 := dk_seg dksX0_units_5 22 rfl rfl
theorem dksX0_units_7 : cX0_units.data.toList.drop 159 = dktX0_units_7 := dk_seg dksX0_units_6 23 rfl rfl
theorem dksX0_units_8 : cX0_units.data.toList.drop 182 = dktX0_units_8 := dk_seg dksX0_units_7 23 rfl rfl
theorem dksX0_units_9 : cX0_units.data.toList.drop 205 = dktX0_units_9 := dk_seg dksX0_units_8 23 rfl rfl
theorem dksX0_units_10 : cX0_units.data.toList.drop 227 = dktX0_units_10 := dk_seg dksX0_units_9 22 rfl rfl
theorem dksX0_units_11 : cX0_units.data.toList.drop 250 = dktX0_units_11 := dk_seg dksX0_units_10 23 rfl rfl
theorem dksX0_units_12 : cX0_units.data.toList.drop 273 = dktX0_units_12 := dk_seg dksX0_units_11 23 rfl rfl
theorem dksX0_units_13 : cX0_units.data.toList.drop 297 = dktX0_units_13 := dk_seg dksX0_units_12 24 rfl rfl
theorem dksX0_units_14 : cX0_units.data.toList.drop 321 = dktX0_units_14 := dk_seg dksX0_units_13 24 rfl rfl
theorem dksX0_units_15 : cX0_units.data.toList.drop 345 = dktX0_units_15 := dk_seg dksX0_units_14 24 rfl rfl
theorem dX0_units_0 : decode cX0_units 0 = .ok (.iload_n 1, 1) := dk_27 (dk_at dksX0_units_0 0 rfl rfl)
theorem dX0_units_1 : decode cX0_units 1 = .ok (.istore 4, 2) := dk_54 4 (dk_at dksX0_units_0 1 rfl rfl)
theorem dX0_units_3 : decode cX0_units 3 = .ok (.iconst 0, 1) := dk_3 (dk_at dksX0_units_0 3 rfl rfl)
theorem dX0_units_4 : decode cX0_units 4 = .ok (.istore 5, 2) := dk_54 5 (dk_at dksX0_units_0 4 rfl rfl)
theorem dX0_units_6 : decode cX0_units 6 = .ok (.iload 4, 2) := dk_21 4 (dk_at dksX0_units_0 6 rfl rfl)
theorem dX0_units_8 : decode cX0_units 8 = .ok (.iload_n 2, 1) := dk_28 (dk_at dksX0_units_0 8 rfl rfl)
theorem dX0_units_9 : decode cX0_units 9 = .ok (.if_icmp .ge 348, 3) := dk_162 1 92 (dk_at dksX0_units_0 9 rfl rfl)
theorem dX0_units_12 : decode cX0_units 12 = .ok (.aload_n 0, 1) := dk_42 (dk_at dksX0_units_0 12 rfl rfl)
theorem dX0_units_13 : decode cX0_units 13 = .ok (.iload 4, 2) := dk_21 4 (dk_at dksX0_units_0 13 rfl rfl)
theorem dX0_units_15 : decode cX0_units 15 = .ok (.iaload, 1) := dk_46 (dk_at dksX0_units_0 15 rfl rfl)
theorem dX0_units_16 : decode cX0_units 16 = .ok (.istore 6, 2) := dk_54 6 (dk_at dksX0_units_0 16 rfl rfl)
theorem dX0_units_18 : decode cX0_units 18 = .ok (.iload 6, 2) := dk_21 6 (dk_at dksX0_units_0 18 rfl rfl)
theorem dX0_units_20 : decode cX0_units 20 = .ok (.sipush 128, 3) := dk_17 0 128 (dk_at dksX0_units_0 20 rfl rfl)
theorem dX0_units_23 : decode cX0_units 23 = .ok (.if_icmp .ge 7, 3) := dk_162 0 7 (dk_at dksX0_units_1 0 rfl rfl)
theorem dX0_units_26 : decode cX0_units 26 = .ok (.iconst 0, 1) := dk_3 (dk_at dksX0_units_1 3 rfl rfl)
theorem dX0_units_27 : decode cX0_units 27 = .ok (.goto 54, 3) := dk_167 0 54 (dk_at dksX0_units_1 4 rfl rfl)
theorem dX0_units_30 : decode cX0_units 30 = .ok (.iload 6, 2) := dk_21 6 (dk_at dksX0_units_1 7 rfl rfl)
theorem dX0_units_32 : decode cX0_units 32 = .ok (.sipush 194, 3) := dk_17 0 194 (dk_at dksX0_units_1 9 rfl rfl)
theorem dX0_units_35 : decode cX0_units 35 = .ok (.if_icmp .ge 8, 3) := dk_162 0 8 (dk_at dksX0_units_1 12 rfl rfl)
theorem dX0_units_38 : decode cX0_units 38 = .ok (.bipush 9, 2) := dk_16 9 (dk_at dksX0_units_1 15 rfl rfl)
theorem dX0_units_40 : decode cX0_units 40 = .ok (.goto 41, 3) := dk_167 0 41 (dk_at dksX0_units_1 17 rfl rfl)
theorem dX0_units_43 : decode cX0_units 43 = .ok (.iload 6, 2) := dk_21 6 (dk_at dksX0_units_1 20 rfl rfl)
theorem dX0_units_45 : decode cX0_units 45 = .ok (.sipush 224, 3) := dk_17 0 224 (dk_at dksX0_units_2 0 rfl rfl)
theorem dX0_units_48 : decode cX0_units 48 = .ok (.if_icmp .ge 7, 3) := dk_162 0 7 (dk_at dksX0_units_2 3 rfl rfl)
theorem dX0_units_51 : decode cX0_units 51 = .ok (.iconst 1, 1) := dk_4 (dk_at dksX0_units_2 6 rfl rfl)
theorem dX0_units_52 : decode cX0_units 52 = .ok (.goto 29, 3) := dk_167 0 29 (dk_at dksX0_units_2 7 rfl rfl)
theorem dX0_units_55 : decode cX0_units 55 = .ok (.iload 6, 2) := dk_21 6 (dk_at dksX0_units_2 10 rfl rfl)
theorem dX0_units_57 : decode cX0_units 57 = .ok (.sipush 240, 3) := dk_17 0 240 (dk_at dksX0_units_2 12 rfl rfl)
theorem dX0_units_60 : decode cX0_units 60 = .ok (.if_icmp .ge 7, 3) := dk_162 0 7 (dk_at dksX0_units_2 15 rfl rfl)
theorem dX0_units_63 : decode cX0_units 63 = .ok (.iconst 2, 1) := dk_5 (dk_at dksX0_units_2 18 rfl rfl)
theorem dX0_units_64 : decode cX0_units 64 = .ok (.goto 17, 3) := dk_167 0 17 (dk_at dksX0_units_2 19 rfl rfl)
theorem dX0_units_67 : decode cX0_units 67 = .ok (.iload 6, 2) := dk_21 6 (dk_at dksX0_units_2 22 rfl rfl)
theorem dX0_units_69 : decode cX0_units 69 = .ok (.sipush 245, 3) := dk_17 0 245 (dk_at dksX0_units_3 0 rfl rfl)
theorem dX0_units_72 : decode cX0_units 72 = .ok (.if_icmp .ge 7, 3) := dk_162 0 7 (dk_at dksX0_units_3 3 rfl rfl)
theorem dX0_units_75 : decode cX0_units 75 = .ok (.iconst 3, 1) := dk_6 (dk_at dksX0_units_3 6 rfl rfl)
theorem dX0_units_76 : decode cX0_units 76 = .ok (.goto 5, 3) := dk_167 0 5 (dk_at dksX0_units_3 7 rfl rfl)
theorem dX0_units_79 : decode cX0_units 79 = .ok (.bipush 9, 2) := dk_16 9 (dk_at dksX0_units_3 10 rfl rfl)
theorem dX0_units_81 : decode cX0_units 81 = .ok (.istore 7, 2) := dk_54 7 (dk_at dksX0_units_3 12 rfl rfl)
theorem dX0_units_83 : decode cX0_units 83 = .ok (.iload 7, 2) := dk_21 7 (dk_at dksX0_units_3 14 rfl rfl)
theorem dX0_units_85 : decode cX0_units 85 = .ok (.bipush 9, 2) := dk_16 9 (dk_at dksX0_units_3 16 rfl rfl)
theorem dX0_units_87 : decode cX0_units 87 = .ok (.if_icmp .eq 12, 3) := dk_159 0 12 (dk_at dksX0_units_3 18 rfl rfl)
theorem dX0_units_90 : decode cX0_units 90 = .ok (.iload 4, 2) := dk_21 4 (dk_at dksX0_units_3 21 rfl rfl)
theorem dX0_units_92 : decode cX0_units 92 = .ok (.iload 7, 2) := dk_21 7 (dk_at dksX0_units_4 0 rfl rfl)
theorem dX0_units_94 : decode cX0_units 94 = .ok (.iadd, 1) := dk_96 (dk_at dksX0_units_4 2 rfl rfl)
theorem dX0_units_95 : decode cX0_units 95 = .ok (.iload_n 2, 1) := dk_28 (dk_at dksX0_units_4 3 rfl rfl)
theorem dX0_units_96 : decode cX0_units 96 = .ok (.if_icmp .lt 5, 3) := dk_161 0 5 (dk_at dksX0_units_4 4 rfl rfl)
theorem dX0_units_99 : decode cX0_units 99 = .ok (.iconst (-1), 1) := dk_2 (dk_at dksX0_units_4 7 rfl rfl)
theorem dX0_units_100 : decode cX0_units 100 = .ok (.ireturn, 1) := dk_172 (dk_at dksX0_units_4 8 rfl rfl)
theorem dX0_units_101 : decode cX0_units 101 = .ok (.iload 7, 2) := dk_21 7 (dk_at dksX0_units_4 9 rfl rfl)
theorem dX0_units_103 : decode cX0_units 103 = .ok (.ifCond .ne 8, 3) := dk_154 0 8 (dk_at dksX0_units_4 11 rfl rfl)
theorem dX0_units_106 : decode cX0_units 106 = .ok (.iload 6, 2) := dk_21 6 (dk_at dksX0_units_4 14 rfl rfl)
theorem dX0_units_108 : decode cX0_units 108 = .ok (.goto 36, 3) := dk_167 0 36 (dk_at dksX0_units_4 16 rfl rfl)
theorem dX0_units_111 : decode cX0_units 111 = .ok (.iload 7, 2) := dk_21 7 (dk_at dksX0_units_4 19 rfl rfl)
theorem dX0_units_113 : decode cX0_units 113 = .ok (.iconst 1, 1) := dk_4 (dk_at dksX0_units_4 21 rfl rfl)
theorem dX0_units_114 : decode cX0_units 114 = .ok (.if_icmp .ne 11, 3) := dk_160 0 11 (dk_at dksX0_units_5 0 rfl rfl)
theorem dX0_units_117 : decode cX0_units 117 = .ok (.iload 6, 2) := dk_21 6 (dk_at dksX0_units_5 3 rfl rfl)
theorem dX0_units_119 : decode cX0_units 119 = .ok (.bipush 31, 2) := dk_16 31 (dk_at dksX0_units_5 5 rfl rfl)
theorem dX0_units_121 : decode cX0_units 121 = .ok (.iand, 1) := dk_126 (dk_at dksX0_units_5 7 rfl rfl)
theorem dX0_units_122 : decode cX0_units 122 = .ok (.goto 22, 3) := dk_167 0 22 (dk_at dksX0_units_5 8 rfl rfl)
theorem dX0_units_125 : decode cX0_units 125 = .ok (.iload 7, 2) := dk_21 7 (dk_at dksX0_units_5 11 rfl rfl)
theorem dX0_units_127 : decode cX0_units 127 = .ok (.iconst 2, 1) := dk_5 (dk_at dksX0_units_5 13 rfl rfl)
theorem dX0_units_128 : decode cX0_units 128 = .ok (.if_icmp .ne 11, 3) := dk_160 0 11 (dk_at dksX0_units_5 14 rfl rfl)
theorem dX0_units_131 : decode cX0_units 131 = .ok (.iload 6, 2) := dk_21 6 (dk_at dksX0_units_5 17 rfl rfl)
theorem dX0_units_133 : decode cX0_units 133 = .ok (.bipush 15, 2) := dk_16 15 (dk_at dksX0_units_5 19 rfl rfl)
theorem dX0_units_135 : decode cX0_units 135 = .ok (.iand, 1) := dk_126 (dk_at dksX0_units_5 21 rfl rfl)
theorem dX0_units_136 : decode cX0_units 136 = .ok (.goto 8, 3) := dk_167 0 8 (dk_at dksX0_units_6 0 rfl rfl)
theorem dX0_units_139 : decode cX0_units 139 = .ok (.iload 6, 2) := dk_21 6 (dk_at dksX0_units_6 3 rfl rfl)
theorem dX0_units_141 : decode cX0_units 141 = .ok (.bipush 7, 2) := dk_16 7 (dk_at dksX0_units_6 5 rfl rfl)
theorem dX0_units_143 : decode cX0_units 143 = .ok (.iand, 1) := dk_126 (dk_at dksX0_units_6 7 rfl rfl)
theorem dX0_units_144 : decode cX0_units 144 = .ok (.istore 8, 2) := dk_54 8 (dk_at dksX0_units_6 8 rfl rfl)
theorem dX0_units_146 : decode cX0_units 146 = .ok (.iconst 1, 1) := dk_4 (dk_at dksX0_units_6 10 rfl rfl)
theorem dX0_units_147 : decode cX0_units 147 = .ok (.istore 9, 2) := dk_54 9 (dk_at dksX0_units_6 11 rfl rfl)
theorem dX0_units_149 : decode cX0_units 149 = .ok (.iload 9, 2) := dk_21 9 (dk_at dksX0_units_6 13 rfl rfl)
theorem dX0_units_151 : decode cX0_units 151 = .ok (.iload 7, 2) := dk_21 7 (dk_at dksX0_units_6 15 rfl rfl)
theorem dX0_units_153 : decode cX0_units 153 = .ok (.if_icmp .gt 137, 3) := dk_163 0 137 (dk_at dksX0_units_6 17 rfl rfl)
theorem dX0_units_156 : decode cX0_units 156 = .ok (.aload_n 0, 1) := dk_42 (dk_at dksX0_units_6 20 rfl rfl)
theorem dX0_units_157 : decode cX0_units 157 = .ok (.iload 4, 2) := dk_21 4 (dk_at dksX0_units_6 21 rfl rfl)
theorem dX0_units_159 : decode cX0_units 159 = .ok (.iload 9, 2) := dk_21 9 (dk_at dksX0_units_7 0 rfl rfl)
theorem dX0_units_161 : decode cX0_units 161 = .ok (.iadd, 1) := dk_96 (dk_at dksX0_units_7 2 rfl rfl)
theorem dX0_units_162 : decode cX0_units 162 = .ok (.iaload, 1) := dk_46 (dk_at dksX0_units_7 3 rfl rfl)
theorem dX0_units_163 : decode cX0_units 163 = .ok (.istore 10, 2) := dk_54 10 (dk_at dksX0_units_7 4 rfl rfl)
theorem dX0_units_165 : decode cX0_units 165 = .ok (.iload 9, 2) := dk_21 9 (dk_at dksX0_units_7 6 rfl rfl)
theorem dX0_units_167 : decode cX0_units 167 = .ok (.iconst 1, 1) := dk_4 (dk_at dksX0_units_7 8 rfl rfl)
theorem dX0_units_168 : decode cX0_units 168 = .ok (.if_icmp .le 9, 3) := dk_164 0 9 (dk_at dksX0_units_7 9 rfl rfl)
theorem dX0_units_171 : decode cX0_units 171 = .ok (.sipush 128, 3) := dk_17 0 128 (dk_at dksX0_units_7 12 rfl rfl)
theorem dX0_units_174 : decode cX0_units 174 = .ok (.goto 34, 3) := dk_167 0 34 (dk_at dksX0_units_7 15 rfl rfl)
theorem dX0_units_177 : decode cX0_units 177 = .ok (.iload 6, 2) := dk_21 6 (dk_at dksX0_units_7 18 rfl rfl)
theorem dX0_units_179 : decode cX0_units 179 = .ok (.sipush 224, 3) := dk_17 0 224 (dk_at dksX0_units_7 20 rfl rfl)
theorem dX0_units_182 : decode cX0_units 182 = .ok (.if_icmp .ne 9, 3) := dk_160 0 9 (dk_at dksX0_units_8 0 rfl rfl)
theorem dX0_units_185 : decode cX0_units 185 = .ok (.sipush 160, 3) := dk_17 0 160 (dk_at dksX0_units_8 3 rfl rfl)
theorem dX0_units_188 : decode cX0_units 188 = .ok (.goto 20, 3) := dk_167 0 20 (dk_at dksX0_units_8 6 rfl rfl)
theorem dX0_units_191 : decode cX0_units 191 = .ok (.iload 6, 2) := dk_21 6 (dk_at dksX0_units_8 9 rfl rfl)
theorem dX0_units_193 : decode cX0_units 193 = .ok (.sipush 240, 3) := dk_17 0 240 (dk_at dksX0_units_8 11 rfl rfl)
theorem dX0_units_196 : decode cX0_units 196 = .ok (.if_icmp .ne 9, 3) := dk_160 0 9 (dk_at dksX0_units_8 14 rfl rfl)
theorem dX0_units_199 : decode cX0_units 199 = .ok (.sipush 144, 3) := dk_17 0 144 (dk_at dksX0_units_8 17 rfl rfl)
theorem dX0_units_202 : decode cX0_units 202 = .ok (.goto 6, 3) := dk_167 0 6 (dk_at dksX0_units_8 20 rfl rfl)
theorem dX0_units_205 : decode cX0_units 205 = .ok (.sipush 128, 3) := dk_17 0 128 (dk_at dksX0_units_9 0 rfl rfl)
theorem dX0_units_208 : decode cX0_units 208 = .ok (.istore 11, 2) := dk_54 11 (dk_at dksX0_units_9 3 rfl rfl)
theorem dX0_units_210 : decode cX0_units 210 = .ok (.iload 9, 2) := dk_21 9 (dk_at dksX0_units_9 5 rfl rfl)
theorem dX0_units_212 : decode cX0_units 212 = .ok (.iconst 1, 1) := dk_4 (dk_at dksX0_units_9 7 rfl rfl)
theorem dX0_units_213 : decode cX0_units 213 = .ok (.if_icmp .le 9, 3) := dk_164 0 9 (dk_at dksX0_units_9 8 rfl rfl)
theorem dX0_units_216 : decode cX0_units 216 = .ok (.sipush 191, 3) := dk_17 0 191 (dk_at dksX0_units_9 11 rfl rfl)
theorem dX0_units_219 : decode cX0_units 219 = .ok (.goto 34, 3) := dk_167 0 34 (dk_at dksX0_units_9 14 rfl rfl)
theorem dX0_units_222 : decode cX0_units 222 = .ok (.iload 6, 2) := dk_21 6 (dk_at dksX0_units_9 17 rfl rfl)
theorem dX0_units_224 : decode cX0_units 224 = .ok (.sipush 237, 3) := dk_17 0 237 (dk_at dksX0_units_9 19 rfl rfl)
theorem dX0_units_227 : decode cX0_units 227 = .ok (.if_icmp .ne 9, 3) := dk_160 0 9 (dk_at dksX0_units_10 0 rfl rfl)
theorem dX0_units_230 : decode cX0_units 230 = .ok (.sipush 159, 3) := dk_17 0 159 (dk_at dksX0_units_10 3 rfl rfl)
theorem dX0_units_233 : decode cX0_units 233 = .ok (.goto 20, 3) := dk_167 0 20 (dk_at dksX0_units_10 6 rfl rfl)
theorem dX0_units_236 : decode cX0_units 236 = .ok (.iload 6, 2) := dk_21 6 (dk_at dksX0_units_10 9 rfl rfl)
theorem dX0_units_238 : decode cX0_units 238 = .ok (.sipush 244, 3) := dk_17 0 244 (dk_at dksX0_units_10 11 rfl rfl)
theorem dX0_units_241 : decode cX0_units 241 = .ok (.if_icmp .ne 9, 3) := dk_160 0 9 (dk_at dksX0_units_10 14 rfl rfl)
theorem dX0_units_244 : decode cX0_units 244 = .ok (.sipush 143, 3) := dk_17 0 143 (dk_at dksX0_units_10 17 rfl rfl)
theorem dX0_units_247 : decode cX0_units 247 = .ok (.goto 6, 3) := dk_167 0 6 (dk_at dksX0_units_10 20 rfl rfl)
theorem dX0_units_250 : decode cX0_units 250 = .ok (.sipush 191, 3) := dk_17 0 191 (dk_at dksX0_units_11 0 rfl rfl)
theorem dX0_units_253 : decode cX0_units 253 = .ok (.istore 12, 2) := dk_54 12 (dk_at dksX0_units_11 3 rfl rfl)
theorem dX0_units_255 : decode cX0_units 255 = .ok (.iload 10, 2) := dk_21 10 (dk_at dksX0_units_11 5 rfl rfl)
theorem dX0_units_257 : decode cX0_units 257 = .ok (.iload 11, 2) := dk_21 11 (dk_at dksX0_units_11 7 rfl rfl)
theorem dX0_units_259 : decode cX0_units 259 = .ok (.if_icmp .lt 10, 3) := dk_161 0 10 (dk_at dksX0_units_11 9 rfl rfl)
theorem dX0_units_262 : decode cX0_units 262 = .ok (.iload 10, 2) := dk_21 10 (dk_at dksX0_units_11 12 rfl rfl)
theorem dX0_units_264 : decode cX0_units 264 = .ok (.iload 12, 2) := dk_21 12 (dk_at dksX0_units_11 14 rfl rfl)
theorem dX0_units_266 : decode cX0_units 266 = .ok (.if_icmp .le 5, 3) := dk_164 0 5 (dk_at dksX0_units_11 16 rfl rfl)
theorem dX0_units_269 : decode cX0_units 269 = .ok (.iconst (-1), 1) := dk_2 (dk_at dksX0_units_11 19 rfl rfl)
theorem dX0_units_270 : decode cX0_units 270 = .ok (.ireturn, 1) := dk_172 (dk_at dksX0_units_11 20 rfl rfl)
theorem dX0_units_271 : decode cX0_units 271 = .ok (.iload 8, 2) := dk_21 8 (dk_at dksX0_units_11 21 rfl rfl)
theorem dX0_units_273 : decode cX0_units 273 = .ok (.bipush 6, 2) := dk_16 6 (dk_at dksX0_units_12 0 rfl rfl)
theorem dX0_units_275 : decode cX0_units 275 = .ok (.ishl, 1) := dk_120 (dk_at dksX0_units_12 2 rfl rfl)
theorem dX0_units_276 : decode cX0_units 276 = .ok (.iload 10, 2) := dk_21 10 (dk_at dksX0_units_12 3 rfl rfl)
theorem dX0_units_278 : decode cX0_units 278 = .ok (.bipush 63, 2) := dk_16 63 (dk_at dksX0_units_12 5 rfl rfl)
theorem dX0_units_280 : decode cX0_units 280 = .ok (.iand, 1) := dk_126 (dk_at dksX0_units_12 7 rfl rfl)
theorem dX0_units_281 : decode cX0_units 281 = .ok (.ior, 1) := dk_128 (dk_at dksX0_units_12 8 rfl rfl)
theorem dX0_units_282 : decode cX0_units 282 = .ok (.istore 8, 2) := dk_54 8 (dk_at dksX0_units_12 9 rfl rfl)
theorem dX0_units_284 : decode cX0_units 284 = .ok (.iinc 9 1, 3) := dk_132 9 1 (dk_at dksX0_units_12 11 rfl rfl)
theorem dX0_units_287 : decode cX0_units 287 = .ok (.goto (-138), 3) := dk_167 255 118 (dk_at dksX0_units_12 14 rfl rfl)
theorem dX0_units_290 : decode cX0_units 290 = .ok (.iload 8, 2) := dk_21 8 (dk_at dksX0_units_12 17 rfl rfl)
theorem dX0_units_292 : decode cX0_units 292 = .ok (.ldc 10, 2) := dk_18 10 (dk_at dksX0_units_12 19 rfl rfl)
theorem dX0_units_294 : decode cX0_units 294 = .ok (.if_icmp .ge 15, 3) := dk_162 0 15 (dk_at dksX0_units_12 21 rfl rfl)
theorem dX0_units_297 : decode cX0_units 297 = .ok (.aload_n 3, 1) := dk_45 (dk_at dksX0_units_13 0 rfl rfl)
theorem dX0_units_298 : decode cX0_units 298 = .ok (.iload 5, 2) := dk_21 5 (dk_at dksX0_units_13 1 rfl rfl)
theorem dX0_units_300 : decode cX0_units 300 = .ok (.iload 8, 2) := dk_21 8 (dk_at dksX0_units_13 3 rfl rfl)
theorem dX0_units_302 : decode cX0_units 302 = .ok (.iastore, 1) := dk_79 (dk_at dksX0_units_13 5 rfl rfl)
theorem dX0_units_303 : decode cX0_units 303 = .ok (.iinc 5 1, 3) := dk_132 5 1 (dk_at dksX0_units_13 6 rfl rfl)
theorem dX0_units_306 : decode cX0_units 306 = .ok (.goto 39, 3) := dk_167 0 39 (dk_at dksX0_units_13 9 rfl rfl)
theorem dX0_units_309 : decode cX0_units 309 = .ok (.aload_n 3, 1) := dk_45 (dk_at dksX0_units_13 12 rfl rfl)
theorem dX0_units_310 : decode cX0_units 310 = .ok (.iload 5, 2) := dk_21 5 (dk_at dksX0_units_13 13 rfl rfl)
theorem dX0_units_312 : decode cX0_units 312 = .ok (.ldc 9, 2) := dk_18 9 (dk_at dksX0_units_13 15 rfl rfl)
theorem dX0_units_314 : decode cX0_units 314 = .ok (.iload 8, 2) := dk_21 8 (dk_at dksX0_units_13 17 rfl rfl)
theorem dX0_units_316 : decode cX0_units 316 = .ok (.ldc 10, 2) := dk_18 10 (dk_at dksX0_units_13 19 rfl rfl)
theorem dX0_units_318 : decode cX0_units 318 = .ok (.isub, 1) := dk_100 (dk_at dksX0_units_13 21 rfl rfl)
theorem dX0_units_319 : decode cX0_units 319 = .ok (.bipush 10, 2) := dk_16 10 (dk_at dksX0_units_13 22 rfl rfl)
theorem dX0_units_321 : decode cX0_units 321 = .ok (.ishr, 1) := dk_122 (dk_at dksX0_units_14 0 rfl rfl)
theorem dX0_units_322 : decode cX0_units 322 = .ok (.iadd, 1) := dk_96 (dk_at dksX0_units_14 1 rfl rfl)
theorem dX0_units_323 : decode cX0_units 323 = .ok (.iastore, 1) := dk_79 (dk_at dksX0_units_14 2 rfl rfl)
theorem dX0_units_324 : decode cX0_units 324 = .ok (.aload_n 3, 1) := dk_45 (dk_at dksX0_units_14 3 rfl rfl)
theorem dX0_units_325 : decode cX0_units 325 = .ok (.iload 5, 2) := dk_21 5 (dk_at dksX0_units_14 4 rfl rfl)
theorem dX0_units_327 : decode cX0_units 327 = .ok (.iconst 1, 1) := dk_4 (dk_at dksX0_units_14 6 rfl rfl)
theorem dX0_units_328 : decode cX0_units 328 = .ok (.iadd, 1) := dk_96 (dk_at dksX0_units_14 7 rfl rfl)
theorem dX0_units_329 : decode cX0_units 329 = .ok (.ldc 11, 2) := dk_18 11 (dk_at dksX0_units_14 8 rfl rfl)
theorem dX0_units_331 : decode cX0_units 331 = .ok (.iload 8, 2) := dk_21 8 (dk_at dksX0_units_14 10 rfl rfl)
theorem dX0_units_333 : decode cX0_units 333 = .ok (.ldc 10, 2) := dk_18 10 (dk_at dksX0_units_14 12 rfl rfl)
theorem dX0_units_335 : decode cX0_units 335 = .ok (.isub, 1) := dk_100 (dk_at dksX0_units_14 14 rfl rfl)
theorem dX0_units_336 : decode cX0_units 336 = .ok (.sipush 1023, 3) := dk_17 3 255 (dk_at dksX0_units_14 15 rfl rfl)
theorem dX0_units_339 : decode cX0_units 339 = .ok (.iand, 1) := dk_126 (dk_at dksX0_units_14 18 rfl rfl)
theorem dX0_units_340 : decode cX0_units 340 = .ok (.iadd, 1) := dk_96 (dk_at dksX0_units_14 19 rfl rfl)
theorem dX0_units_341 : decode cX0_units 341 = .ok (.iastore, 1) := dk_79 (dk_at dksX0_units_14 20 rfl rfl)
theorem dX0_units_342 : decode cX0_units 342 = .ok (.iinc 5 2, 3) := dk_132 5 2 (dk_at dksX0_units_14 21 rfl rfl)
theorem dX0_units_345 : decode cX0_units 345 = .ok (.iload 4, 2) := dk_21 4 (dk_at dksX0_units_15 0 rfl rfl)
theorem dX0_units_347 : decode cX0_units 347 = .ok (.iload 7, 2) := dk_21 7 (dk_at dksX0_units_15 2 rfl rfl)
theorem dX0_units_349 : decode cX0_units 349 = .ok (.iconst 1, 1) := dk_4 (dk_at dksX0_units_15 4 rfl rfl)
theorem dX0_units_350 : decode cX0_units 350 = .ok (.iadd, 1) := dk_96 (dk_at dksX0_units_15 5 rfl rfl)
theorem dX0_units_351 : decode cX0_units 351 = .ok (.iadd, 1) := dk_96 (dk_at dksX0_units_15 6 rfl rfl)
theorem dX0_units_352 : decode cX0_units 352 = .ok (.istore 4, 2) := dk_54 4 (dk_at dksX0_units_15 7 rfl rfl)
theorem dX0_units_354 : decode cX0_units 354 = .ok (.goto (-348), 3) := dk_167 254 164 (dk_at dksX0_units_15 9 rfl rfl)
theorem dX0_units_357 : decode cX0_units 357 = .ok (.iload 5, 2) := dk_21 5 (dk_at dksX0_units_15 12 rfl rfl)
theorem dX0_units_359 : decode cX0_units 359 = .ok (.ireturn, 1) := dk_172 (dk_at dksX0_units_15 14 rfl rfl)
abbrev cX0_noLetters : ByteArray := method_6_code
def yX0_noLetters : MethodName := ⟨RX0, "noLetters", "([I)Z"⟩
def dkwX0_noLetters_22 : List UInt8 := [4, 167, 0, 4, 3, 172]
abbrev dktX0_noLetters_22 : List UInt8 := dkwX0_noLetters_22 ++ []
def dkwX0_noLetters_21 : List UInt8 := [17, 4, 0, 182, 0, 33, 17, 2, 0, 160, 0, 19, 45, 17, 1, 255, 182, 0, 37, 18, 40, 160, 0, 7]
abbrev dktX0_noLetters_21 : List UInt8 := dkwX0_noLetters_21 ++ dktX0_noLetters_22
def dkwX0_noLetters_20 : List UInt8 := [160, 0, 52, 45, 3, 182, 0, 15, 2, 160, 0, 43, 45, 182, 0, 44, 17, 4, 0, 160, 0, 33, 45, 3]
abbrev dktX0_noLetters_20 : List UInt8 := dkwX0_noLetters_20 ++ dktX0_noLetters_21
def dkwX0_noLetters_19 : List UInt8 := [167, 255, 235, 45, 182, 0, 44, 17, 3, 252, 160, 0, 64, 45, 18, 51, 182, 0, 15, 17, 4, 0]
abbrev dktX0_noLetters_19 : List UInt8 := dkwX0_noLetters_19 ++ dktX0_noLetters_20
def dkwX0_noLetters_18 : List UInt8 := [54, 4, 21, 4, 17, 0, 255, 162, 0, 19, 45, 18, 10, 21, 4, 96, 182, 0, 15, 87, 132, 4, 1]
abbrev dktX0_noLetters_18 : List UInt8 := dkwX0_noLetters_18 ++ dktX0_noLetters_19
def dkwX0_noLetters_17 : List UInt8 := [182, 0, 33, 153, 0, 5, 3, 172, 132, 5, 1, 167, 255, 73, 187, 0, 12, 89, 183, 0, 14, 78, 3]
abbrev dktX0_noLetters_17 : List UInt8 := dkwX0_noLetters_17 ++ dktX0_noLetters_18
def dkwX0_noLetters_16 : List UInt8 := [160, 0, 30, 25, 7, 3, 21, 8, 4, 100, 182, 0, 33, 2, 160, 0, 16, 25, 7, 21, 8, 4, 100, 3]
abbrev dktX0_noLetters_16 : List UInt8 := dkwX0_noLetters_16 ++ dktX0_noLetters_17
def dkwX0_noLetters_15 : List UInt8 := [159, 0, 5, 3, 172, 25, 7, 21, 8, 4, 100, 182, 0, 53, 25, 7, 182, 0, 44, 21, 8, 4, 100]
abbrev dktX0_noLetters_15 : List UInt8 := dkwX0_noLetters_15 ++ dktX0_noLetters_16
def dkwX0_noLetters_14 : List UInt8 := [21, 6, 18, 50, 164, 0, 17, 18, 9, 21, 6, 18, 10, 100, 16, 10, 122, 96, 167, 0, 5, 21, 6]
abbrev dktX0_noLetters_14 : List UInt8 := dkwX0_noLetters_14 ++ dktX0_noLetters_15
def dkwX0_noLetters_13 : List UInt8 := [182, 0, 33, 21, 6, 18, 50, 164, 0, 7, 5, 167, 0, 4, 4, 160, 0, 35, 25, 7, 3, 182, 0, 37]
abbrev dktX0_noLetters_13 : List UInt8 := dkwX0_noLetters_13 ++ dktX0_noLetters_14
def dkwX0_noLetters_12 : List UInt8 := [167, 0, 4, 7, 160, 0, 68, 25, 7, 182, 0, 44, 21, 8, 160, 0, 58, 25, 7, 3, 21, 8]
abbrev dktX0_noLetters_12 : List UInt8 := dkwX0_noLetters_12 ++ dktX0_noLetters_13
def dkwX0_noLetters_11 : List UInt8 := [54, 8, 21, 8, 21, 6, 17, 8, 0, 162, 0, 7, 5, 167, 0, 15, 21, 6, 18, 10, 162, 0, 7, 6]
abbrev dktX0_noLetters_11 : List UInt8 := dkwX0_noLetters_11 ++ dktX0_noLetters_12
def dkwX0_noLetters_10 : List UInt8 := [21, 5, 46, 54, 6, 187, 0, 12, 89, 183, 0, 14, 58, 7, 25, 7, 21, 6, 18, 52, 128, 182, 0, 15]
abbrev dktX0_noLetters_10 : List UInt8 := dkwX0_noLetters_10 ++ dktX0_noLetters_11
def dkwX0_noLetters_9 : List UInt8 := [16, 7, 18, 51, 79, 77, 44, 78, 45, 190, 54, 4, 3, 54, 5, 21, 5, 21, 4, 162, 0, 182, 45]
abbrev dktX0_noLetters_9 : List UInt8 := dkwX0_noLetters_9 ++ dktX0_noLetters_10
def dkwX0_noLetters_8 : List UInt8 := [79, 89, 6, 18, 48, 79, 89, 7, 18, 49, 79, 89, 8, 18, 50, 79, 89, 16, 6, 18, 10, 79, 89]
abbrev dktX0_noLetters_8 : List UInt8 := dkwX0_noLetters_8 ++ dktX0_noLetters_9
def dkwX0_noLetters_7 : List UInt8 := [167, 255, 163, 16, 8, 188, 10, 89, 3, 17, 0, 128, 79, 89, 4, 17, 7, 255, 79, 89, 5, 17, 8, 0]
abbrev dktX0_noLetters_7 : List UInt8 := dkwX0_noLetters_7 ++ dktX0_noLetters_8
def dkwX0_noLetters_6 : List UInt8 := [182, 0, 33, 2, 160, 0, 13, 25, 6, 3, 182, 0, 37, 2, 159, 0, 5, 3, 172, 132, 4, 1]
abbrev dktX0_noLetters_6 : List UInt8 := dkwX0_noLetters_6 ++ dktX0_noLetters_7
def dkwX0_noLetters_5 : List UInt8 := [21, 5, 18, 10, 162, 0, 7, 6, 167, 0, 4, 7, 160, 0, 28, 25, 6, 3, 25, 6, 182, 0, 44]
abbrev dktX0_noLetters_5 : List UInt8 := dkwX0_noLetters_5 ++ dktX0_noLetters_6
def dkwX0_noLetters_4 : List UInt8 := [182, 0, 37, 2, 160, 0, 60, 25, 6, 3, 3, 182, 0, 33, 154, 0, 50, 25, 6, 21, 5, 182, 0, 15]
abbrev dktX0_noLetters_4 : List UInt8 := dkwX0_noLetters_4 ++ dktX0_noLetters_5
def dkwX0_noLetters_3 : List UInt8 := [21, 4, 29, 162, 0, 93, 44, 21, 4, 46, 54, 5, 187, 0, 12, 89, 183, 0, 14, 58, 6, 25, 6, 3]
abbrev dktX0_noLetters_3 : List UInt8 := dkwX0_noLetters_3 ++ dktX0_noLetters_4
def dkwX0_noLetters_2 : List UInt8 := [18, 41, 42, 4, 184, 0, 19, 18, 7, 126, 18, 43, 112, 96, 79, 76, 43, 77, 44, 190, 62, 3, 54, 4]
abbrev dktX0_noLetters_2 : List UInt8 := dkwX0_noLetters_2 ++ dktX0_noLetters_3
def dkwX0_noLetters_1 : List UInt8 := [89, 7, 18, 42, 79, 89, 8, 18, 9, 42, 3, 184, 0, 19, 17, 7, 255, 126, 96, 79, 89, 16, 6]
abbrev dktX0_noLetters_1 : List UInt8 := dkwX0_noLetters_1 ++ dktX0_noLetters_2
def dkwX0_noLetters_0 : List UInt8 := [16, 7, 188, 10, 89, 3, 18, 9, 79, 89, 4, 18, 40, 79, 89, 5, 18, 11, 79, 89, 6, 18, 41, 79]
abbrev dktX0_noLetters_0 : List UInt8 := dkwX0_noLetters_0 ++ dktX0_noLetters_1
theorem dksX0_noLetters_0 : cX0_noLetters.data.toList.drop 0 = dktX0_noLetters_0 := by decide +kernel
theorem dksX0_noLetters_1 : cX0_noLetters.data.toList.drop 24 = dktX0_noLetters_1 := dk_seg dksX0_noLetters_0 24 rfl rfl
theorem dksX0_noLetters_2 : cX0_noLetters.data.toList.drop 47 = dktX0_noLetters_2 := dk_seg dksX0_noLetters_1 23 rfl rfl
theorem dksX0_noLetters_3 : cX0_noLetters.data.toList.drop 71 = dktX0_noLetters_3 := dk_seg dksX0_noLetters_2 24 rfl rfl
theorem dksX0_noLetters_4 : cX0_noLetters.data.toList.drop 95 = dktX0_noLetters_4 := dk_seg dksX0_noLetters_3 24 rfl rfl
theorem dksX0_noLetters_5 : cX0_noLetters.data.toList.drop 119 = dktX0_noLetters_5 := dk_seg dksX0_noLetters_4 24 rfl rfl
theorem dksX0_noLetters_6 : cX0_noLetters.data.toList.drop 142 = dktX0_noLetters_6 := dk_seg dksX0_noLetters_5 23 rfl rfl
theorem dksX0_noLetters_7 : cX0_noLetters.data.toList.drop 164 = dktX0_noLetters_7 := dk_seg dksX0_noLetters_6 22 rfl rfl
theorem dksX0_noLetters_8 : cX0_noLetters.data.toList.drop 188 = dktX0_noLetters_8 := dk_seg dksX0_noLetters_7 24 rfl rfl
theorem dksX0_noLetters_9 : cX0_noLetters.data.toList.drop 211 = dktX0_noLetters_9 := dk_seg dksX0_noLetters_8 23 rfl rfl
theorem dksX0_noLetters_10 : cX0_noLetters.data.toList.drop 234 = dktX0_noLetters_10 := dk_seg dksX0_noLetters_9 23 rfl rfl
theorem dksX0_noLetters_11 : cX0_noLetters.data.toList.drop 258 = dktX0_noLetters_11 := dk_seg dksX0_noLetters_10 24 rfl rfl
theorem dksX0_noLetters_12 : cX0_noLetters.data.toList.drop 282 = dktX0_noLetters_12 := dk_seg dksX0_noLetters_11 24 rfl rfl
theorem dksX0_noLetters_13 : cX0_noLetters.data.toList.drop 304 = dktX0_noLetters_13 := dk_seg dksX0_noLetters_12 22 rfl rfl
theorem dksX0_noLetters_14 : cX0_noLetters.data.toList.drop 328 = dktX0_noLetters_14 := dk_seg dksX0_noLetters_13 24 rfl rfl
theorem dksX0_noLetters_15 : cX0_noLetters.data.toList.drop 351 = dktX0_noLetters_15 := dk_seg dksX0_noLetters_14 23 rfl rfl
theorem dksX0_noLetters_16 : cX0_noLetters.data.toList.drop 374 = dktX0_noLetters_16 := dk_seg dksX0_noLetters_15 23 rfl rfl
theorem dksX0_noLetters_17 : cX0_noLetters.data.toList.drop 398 = dktX0_noLetters_17 := dk_seg dksX0_noLetters_16 24 rfl rfl
theorem dksX0_noLetters_18 : cX0_noLetters.data.toList.drop 421 = dktX0_noLetters_18 := dk_seg dksX0_noLetters_17 23 rfl rfl
theorem dksX0_noLetters_19 : cX0_noLetters.data.toList.drop 444 = dktX0_noLetters_19 := dk_seg dksX0_noLetters_18 23 rfl rfl
theorem dksX0_noLetters_20 : cX0_noLetters.data.toList.drop 466 = dktX0_noLetters_20 := dk_seg dksX0_noLetters_19 22 rfl rfl
theorem dksX0_noLetters_21 : cX0_noLetters.data.toList.drop 490 = dktX0_noLetters_21 := dk_seg dksX0_noLetters_20 24 rfl rfl
theorem dksX0_noLetters_22 : cX0_noLetters.data.toList.drop 514 = dktX0_noLetters_22 := dk_seg dksX0_noLetters_21 24 rfl rfl
theorem dX0_noLetters_0 : decode cX0_noLetters 0 = .ok (.bipush 7, 2) := dk_16 7 (dk_at dksX0_noLetters_0 0 rfl rfl)
theorem dX0_noLetters_2 : decode cX0_noLetters 2 = .ok (.newarray .int, 2) := dk_188_10 (dk_at dksX0_noLetters_0 2 rfl rfl)
theorem dX0_noLetters_4 : decode cX0_noLetters 4 = .ok (.dup, 1) := dk_89 (dk_at dksX0_noLetters_0 4 rfl rfl)
theorem dX0_noLetters_5 : decode cX0_noLetters 5 = .ok (.iconst 0, 1) := dk_3 (dk_at dksX0_noLetters_0 5 rfl rfl)
theorem dX0_noLetters_6 : decode cX0_noLetters 6 = .ok (.ldc 9, 2) := dk_18 9 (dk_at dksX0_noLetters_0 6 rfl rfl)
theorem dX0_noLetters_8 : decode cX0_noLetters 8 = .ok (.iastore, 1) := dk_79 (dk_at dksX0_noLetters_0 8 rfl rfl)
theorem dX0_noLetters_9 : decode cX0_noLetters 9 = .ok (.dup, 1) := dk_89 (dk_at dksX0_noLetters_0 9 rfl rfl)
theorem dX0_noLetters_10 : decode cX0_noLetters 10 = .ok (.iconst 1, 1) := dk_4 (dk_at dksX0_noLetters_0 10 rfl rfl)
theorem dX0_noLetters_11 : decode cX0_noLetters 11 = .ok (.ldc 40, 2) := dk_18 40 (dk_at dksX0_noLetters_0 11 rfl rfl)
theorem dX0_noLetters_13 : decode cX0_noLetters 13 = .ok (.iastore, 1) := dk_79 (dk_at dksX0_noLetters_0 13 rfl rfl)
theorem dX0_noLetters_14 : decode cX0_noLetters 14 = .ok (.dup, 1) := dk_89 (dk_at dksX0_noLetters_0 14 rfl rfl)
theorem dX0_noLetters_15 : decode cX0_noLetters 15 = .ok (.iconst 2, 1) := dk_5 (dk_at dksX0_noLetters_0 15 rfl rfl)
theorem dX0_noLetters_16 : decode cX0_noLetters 16 = .ok (.ldc 11, 2) := dk_18 11 (dk_at dksX0_noLetters_0 16 rfl rfl)
theorem dX0_noLetters_18 : decode cX0_noLetters 18 = .ok (.iastore, 1) := dk_79 (dk_at dksX0_noLetters_0 18 rfl rfl)
theorem dX0_noLetters_19 : decode cX0_noLetters 19 = .ok (.dup, 1) := dk_89 (dk_at dksX0_noLetters_0 19 rfl rfl)
theorem dX0_noLetters_20 : decode cX0_noLetters 20 = .ok (.iconst 3, 1) := dk_6 (dk_at dksX0_noLetters_0 20 rfl rfl)
theorem dX0_noLetters_21 : decode cX0_noLetters 21 = .ok (.ldc 41, 2) := dk_18 41 (dk_at dksX0_noLetters_0 21 rfl rfl)
theorem dX0_noLetters_23 : decode cX0_noLetters 23 = .ok (.iastore, 1) := dk_79 (dk_at dksX0_noLetters_0 23 rfl rfl)
theorem dX0_noLetters_24 : decode cX0_noLetters 24 = .ok (.dup, 1) := dk_89 (dk_at dksX0_noLetters_1 0 rfl rfl)
theorem dX0_noLetters_25 : decode cX0_noLetters 25 = .ok (.iconst 4, 1) := dk_7 (dk_at dksX0_noLetters_1 1 rfl rfl)
theorem dX0_noLetters_26 : decode cX0_noLetters 26 = .ok (.ldc 42, 2) := dk_18 42 (dk_at dksX0_noLetters_1 2 rfl rfl)
theorem dX0_noLetters_28 : decode cX0_noLetters 28 = .ok (.iastore, 1) := dk_79 (dk_at dksX0_noLetters_1 4 rfl rfl)
theorem dX0_noLetters_29 : decode cX0_noLetters 29 = .ok (.dup, 1) := dk_89 (dk_at dksX0_noLetters_1 5 rfl rfl)
theorem dX0_noLetters_30 : decode cX0_noLetters 30 = .ok (.iconst 5, 1) := dk_8 (dk_at dksX0_noLetters_1 6 rfl rfl)
theorem dX0_noLetters_31 : decode cX0_noLetters 31 = .ok (.ldc 9, 2) := dk_18 9 (dk_at dksX0_noLetters_1 7 rfl rfl)
theorem dX0_noLetters_33 : decode cX0_noLetters 33 = .ok (.aload_n 0, 1) := dk_42 (dk_at dksX0_noLetters_1 9 rfl rfl)
theorem dX0_noLetters_34 : decode cX0_noLetters 34 = .ok (.iconst 0, 1) := dk_3 (dk_at dksX0_noLetters_1 10 rfl rfl)
theorem dX0_noLetters_35 : decode cX0_noLetters 35 = .ok (.invokestatic 19, 3) := dk_184 0 19 (dk_at dksX0_noLetters_1 11 rfl rfl)
theorem dX0_noLetters_38 : decode cX0_noLetters 38 = .ok (.sipush 2047, 3) := dk_17 7 255 (dk_at dksX0_noLetters_1 14 rfl rfl)
theorem dX0_noLetters_41 : decode cX0_noLetters 41 = .ok (.iand, 1) := dk_126 (dk_at dksX0_noLetters_1 17 rfl rfl)
theorem dX0_noLetters_42 : decode cX0_noLetters 42 = .ok (.iadd, 1) := dk_96 (dk_at dksX0_noLetters_1 18 rfl rfl)
theorem dX0_noLetters_43 : decode cX0_noLetters 43 = .ok (.iastore, 1) := dk_79 (dk_at dksX0_noLetters_1 19 rfl rfl)
theorem dX0_noLetters_44 : decode cX0_noLetters 44 = .ok (.dup, 1) := dk_89 (dk_at dksX0_noLetters_1 20 rfl rfl)
theorem dX0_noLetters_45 : decode cX0_noLetters 45 = .ok (.bipush 6, 2) := dk_16 6 (dk_at dksX0_noLetters_1 21 rfl rfl)
theorem dX0_noLetters_47 : decode cX0_noLetters 47 = .ok (.ldc 41, 2) := dk_18 41 (dk_at dksX0_noLetters_2 0 rfl rfl)
theorem dX0_noLetters_49 : decode cX0_noLetters 49 = .ok (.aload_n 0, 1) := dk_42 (dk_at dksX0_noLetters_2 2 rfl rfl)
theorem dX0_noLetters_50 : decode cX0_noLetters 50 = .ok (.iconst 1, 1) := dk_4 (dk_at dksX0_noLetters_2 3 rfl rfl)
theorem dX0_noLetters_51 : decode cX0_noLetters 51 = .ok (.invokestatic 19, 3) := dk_184 0 19 (dk_at dksX0_noLetters_2 4 rfl rfl)
theorem dX0_noLetters_54 : decode cX0_noLetters 54 = .ok (.ldc 7, 2) := dk_18 7 (dk_at dksX0_noLetters_2 7 rfl rfl)
theorem dX0_noLetters_56 : decode cX0_noLetters 56 = .ok (.iand, 1) := dk_126 (dk_at dksX0_noLetters_2 9 rfl rfl)
theorem dX0_noLetters_57 : decode cX0_noLetters 57 = .ok (.ldc 43, 2) := dk_18 43 (dk_at dksX0_noLetters_2 10 rfl rfl)
theorem dX0_noLetters_59 : decode cX0_noLetters 59 = .ok (.irem, 1) := dk_112 (dk_at dksX0_noLetters_2 12 rfl rfl)
theorem dX0_noLetters_60 : decode cX0_noLetters 60 = .ok (.iadd, 1) := dk_96 (dk_at dksX0_noLetters_2 13 rfl rfl)
theorem dX0_noLetters_61 : decode cX0_noLetters 61 = .ok (.iastore, 1) := dk_79 (dk_at dksX0_noLetters_2 14 rfl rfl)
theorem dX0_noLetters_62 : decode cX0_noLetters 62 = .ok (.astore_n 1, 1) := dk_76 (dk_at dksX0_noLetters_2 15 rfl rfl)
theorem dX0_noLetters_63 : decode cX0_noLetters 63 = .ok (.aload_n 1, 1) := dk_43 (dk_at dksX0_noLetters_2 16 rfl rfl)
theorem dX0_noLetters_64 : decode cX0_noLetters 64 = .ok (.astore_n 2, 1) := dk_77 (dk_at dksX0_noLetters_2 17 rfl rfl)
theorem dX0_noLetters_65 : decode cX0_noLetters 65 = .ok (.aload_n 2, 1) := dk_44 (dk_at dksX0_noLetters_2 18 rfl rfl)
theorem dX0_noLetters_66 : decode cX0_noLetters 66 = .ok (.arraylength, 1) := dk_190 (dk_at dksX0_noLetters_2 19 rfl rfl)
theorem dX0_noLetters_67 : decode cX0_noLetters 67 = .ok (.istore_n 3, 1) := dk_62 (dk_at dksX0_noLetters_2 20 rfl rfl)
theorem dX0_noLetters_68 : decode cX0_noLetters 68 = .ok (.iconst 0, 1) := dk_3 (dk_at dksX0_noLetters_2 21 rfl rfl)
theorem dX0_noLetters_69 : decode cX0_noLetters 69 = .ok (.istore 4, 2) := dk_54 4 (dk_at dksX0_noLetters_2 22 rfl rfl)
theorem dX0_noLetters_71 : decode cX0_noLetters 71 = .ok (.iload 4, 2) := dk_21 4 (dk_at dksX0_noLetters_3 0 rfl rfl)
theorem dX0_noLetters_73 : decode cX0_noLetters 73 = .ok (.iload_n 3, 1) := dk_29 (dk_at dksX0_noLetters_3 2 rfl rfl)
theorem dX0_noLetters_74 : decode cX0_noLetters 74 = .ok (.if_icmp .ge 93, 3) := dk_162 0 93 (dk_at dksX0_noLetters_3 3 rfl rfl)
theorem dX0_noLetters_77 : decode cX0_noLetters 77 = .ok (.aload_n 2, 1) := dk_44 (dk_at dksX0_noLetters_3 6 rfl rfl)
theorem dX0_noLetters_78 : decode cX0_noLetters 78 = .ok (.iload 4, 2) := dk_21 4 (dk_at dksX0_noLetters_3 7 rfl rfl)
theorem dX0_noLetters_80 : decode cX0_noLetters 80 = .ok (.iaload, 1) := dk_46 (dk_at dksX0_noLetters_3 9 rfl rfl)
theorem dX0_noLetters_81 : decode cX0_noLetters 81 = .ok (.istore 5, 2) := dk_54 5 (dk_at dksX0_noLetters_3 10 rfl rfl)
theorem dX0_noLetters_83 : decode cX0_noLetters 83 = .ok (.new 12, 3) := dk_187 0 12 (dk_at dksX0_noLetters_3 12 rfl rfl)
theorem dX0_noLetters_86 : decode cX0_noLetters 86 = .ok (.dup, 1) := dk_89 (dk_at dksX0_noLetters_3 15 rfl rfl)
theorem dX0_noLetters_87 : decode cX0_noLetters 87 = .ok (.invokespecial 14, 3) := dk_183 0 14 (dk_at dksX0_noLetters_3 16 rfl rfl)
theorem dX0_noLetters_90 : decode cX0_noLetters 90 = .ok (.astore 6, 2) := dk_58 6 (dk_at dksX0_noLetters_3 19 rfl rfl)
theorem dX0_noLetters_92 : decode cX0_noLetters 92 = .ok (.aload 6, 2) := dk_25 6 (dk_at dksX0_noLetters_3 21 rfl rfl)
theorem dX0_noLetters_94 : decode cX0_noLetters 94 = .ok (.iconst 0, 1) := dk_3 (dk_at dksX0_noLetters_3 23 rfl rfl)
theorem dX0_noLetters_95 : decode cX0_noLetters 95 = .ok (.invokevirtual 37, 3) := dk_182 0 37 (dk_at dksX0_noLetters_4 0 rfl rfl)
theorem dX0_noLetters_98 : decode cX0_noLetters 98 = .ok (.iconst (-1), 1) := dk_2 (dk_at dksX0_noLetters_4 3 rfl rfl)
theorem dX0_noLetters_99 : decode cX0_noLetters 99 = .ok (.if_icmp .ne 60, 3) := dk_160 0 60 (dk_at dksX0_noLetters_4 4 rfl rfl)
theorem dX0_noLetters_102 : decode cX0_noLetters 102 = .ok (.aload 6, 2) := dk_25 6 (dk_at dksX0_noLetters_4 7 rfl rfl)
theorem dX0_noLetters_104 : decode cX0_noLetters 104 = .ok (.iconst 0, 1) := dk_3 (dk_at dksX0_noLetters_4 9 rfl rfl)
theorem dX0_noLetters_105 : decode cX0_noLetters 105 = .ok (.iconst 0, 1) := dk_3 (dk_at dksX0_noLetters_4 10 rfl rfl)
theorem dX0_noLetters_106 : decode cX0_noLetters 106 = .ok (.invokevirtual 33, 3) := dk_182 0 33 (dk_at dksX0_noLetters_4 11 rfl rfl)
theorem dX0_noLetters_109 : decode cX0_noLetters 109 = .ok (.ifCond .ne 50, 3) := dk_154 0 50 (dk_at dksX0_noLetters_4 14 rfl rfl)
theorem dX0_noLetters_112 : decode cX0_noLetters 112 = .ok (.aload 6, 2) := dk_25 6 (dk_at dksX0_noLetters_4 17 rfl rfl)
theorem dX0_noLetters_114 : decode cX0_noLetters 114 = .ok (.iload 5, 2) := dk_21 5 (dk_at dksX0_noLetters_4 19 rfl rfl)
theorem dX0_noLetters_116 : decode cX0_noLetters 116 = .ok (.invokevirtual 15, 3) := dk_182 0 15 (dk_at dksX0_noLetters_4 21 rfl rfl)
theorem dX0_noLetters_119 : decode cX0_noLetters 119 = .ok (.iload 5, 2) := dk_21 5 (dk_at dksX0_noLetters_5 0 rfl rfl)
theorem dX0_noLetters_121 : decode cX0_noLetters 121 = .ok (.ldc 10, 2) := dk_18 10 (dk_at dksX0_noLetters_5 2 rfl rfl)
theorem dX0_noLetters_123 : decode cX0_noLetters 123 = .ok (.if_icmp .ge 7, 3) := dk_162 0 7 (dk_at dksX0_noLetters_5 4 rfl rfl)
theorem dX0_noLetters_126 : decode cX0_noLetters 126 = .ok (.iconst 3, 1) := dk_6 (dk_at dksX0_noLetters_5 7 rfl rfl)
theorem dX0_noLetters_127 : decode cX0_noLetters 127 = .ok (.goto 4, 3) := dk_167 0 4 (dk_at dksX0_noLetters_5 8 rfl rfl)
theorem dX0_noLetters_130 : decode cX0_noLetters 130 = .ok (.iconst 4, 1) := dk_7 (dk_at dksX0_noLetters_5 11 rfl rfl)
theorem dX0_noLetters_131 : decode cX0_noLetters 131 = .ok (.if_icmp .ne 28, 3) := dk_160 0 28 (dk_at dksX0_noLetters_5 12 rfl rfl)
theorem dX0_noLetters_134 : decode cX0_noLetters 134 = .ok (.aload 6, 2) := dk_25 6 (dk_at dksX0_noLetters_5 15 rfl rfl)
theorem dX0_noLetters_136 : decode cX0_noLetters 136 = .ok (.iconst 0, 1) := dk_3 (dk_at dksX0_noLetters_5 17 rfl rfl)
theorem dX0_noLetters_137 : decode cX0_noLetters 137 = .ok (.aload 6, 2) := dk_25 6 (dk_at dksX0_noLetters_5 18 rfl rfl)
theorem dX0_noLetters_139 : decode cX0_noLetters 139 = .ok (.invokevirtual 44, 3) := dk_182 0 44 (dk_at dksX0_noLetters_5 20 rfl rfl)
theorem dX0_noLetters_142 : decode cX0_noLetters 142 = .ok (.invokevirtual 33, 3) := dk_182 0 33 (dk_at dksX0_noLetters_6 0 rfl rfl)
theorem dX0_noLetters_145 : decode cX0_noLetters 145 = .ok (.iconst (-1), 1) := dk_2 (dk_at dksX0_noLetters_6 3 rfl rfl)
theorem dX0_noLetters_146 : decode cX0_noLetters 146 = .ok (.if_icmp .ne 13, 3) := dk_160 0 13 (dk_at dksX0_noLetters_6 4 rfl rfl)
theorem dX0_noLetters_149 : decode cX0_noLetters 149 = .ok (.aload 6, 2) := dk_25 6 (dk_at dksX0_noLetters_6 7 rfl rfl)
theorem dX0_noLetters_151 : decode cX0_noLetters 151 = .ok (.iconst 0, 1) := dk_3 (dk_at dksX0_noLetters_6 9 rfl rfl)
theorem dX0_noLetters_152 : decode cX0_noLetters 152 = .ok (.invokevirtual 37, 3) := dk_182 0 37 (dk_at dksX0_noLetters_6 10 rfl rfl)
theorem dX0_noLetters_155 : decode cX0_noLetters 155 = .ok (.iconst (-1), 1) := dk_2 (dk_at dksX0_noLetters_6 13 rfl rfl)
theorem dX0_noLetters_156 : decode cX0_noLetters 156 = .ok (.if_icmp .eq 5, 3) := dk_159 0 5 (dk_at dksX0_noLetters_6 14 rfl rfl)
theorem dX0_noLetters_159 : decode cX0_noLetters 159 = .ok (.iconst 0, 1) := dk_3 (dk_at dksX0_noLetters_6 17 rfl rfl)
theorem dX0_noLetters_160 : decode cX0_noLetters 160 = .ok (.ireturn, 1) := dk_172 (dk_at dksX0_noLetters_6 18 rfl rfl)
theorem dX0_noLetters_161 : decode cX0_noLetters 161 = .ok (.iinc 4 1, 3) := dk_132 4 1 (dk_at dksX0_noLetters_6 19 rfl rfl)
theorem dX0_noLetters_164 : decode cX0_noLetters 164 = .ok (.goto (-93), 3) := dk_167 255 163 (dk_at dksX0_noLetters_7 0 rfl rfl)
theorem dX0_noLetters_167 : decode cX0_noLetters 167 = .ok (.bipush 8, 2) := dk_16 8 (dk_at dksX0_noLetters_7 3 rfl rfl)
theorem dX0_noLetters_169 : decode cX0_noLetters 169 = .ok (.newarray .int, 2) := dk_188_10 (dk_at dksX0_noLetters_7 5 rfl rfl)
theorem dX0_noLetters_171 : decode cX0_noLetters 171 = .ok (.dup, 1) := dk_89 (dk_at dksX0_noLetters_7 7 rfl rfl)
theorem dX0_noLetters_172 : decode cX0_noLetters 172 = .ok (.iconst 0, 1) := dk_3 (dk_at dksX0_noLetters_7 8 rfl rfl)
theorem dX0_noLetters_173 : decode cX0_noLetters 173 = .ok (.sipush 128, 3) := dk_17 0 128 (dk_at dksX0_noLetters_7 9 rfl rfl)
theorem dX0_noLetters_176 : decode cX0_noLetters 176 = .ok (.iastore, 1) := dk_79 (dk_at dksX0_noLetters_7 12 rfl rfl)
theorem dX0_noLetters_177 : decode cX0_noLetters 177 = .ok (.dup, 1) := dk_89 (dk_at dksX0_noLetters_7 13 rfl rfl)
theorem dX0_noLetters_178 : decode cX0_noLetters 178 = .ok (.iconst 1, 1) := dk_4 (dk_at dksX0_noLetters_7 14 rfl rfl)
theorem dX0_noLetters_179 : decode cX0_noLetters 179 = .ok (.sipush 2047, 3) := dk_17 7 255 (dk_at dksX0_noLetters_7 15 rfl rfl)
theorem dX0_noLetters_182 : decode cX0_noLetters 182 = .ok (.iastore, 1) := dk_79 (dk_at dksX0_noLetters_7 18 rfl rfl)
theorem dX0_noLetters_183 : decode cX0_noLetters 183 = .ok (.dup, 1) := dk_89 (dk_at dksX0_noLetters_7 19 rfl rfl)
theorem dX0_noLetters_184 : decode cX0_noLetters 184 = .ok (.iconst 2, 1) := dk_5 (dk_at dksX0_noLetters_7 20 rfl rfl)
theorem dX0_noLetters_185 : decode cX0_noLetters 185 = .ok (.sipush 2048, 3) := dk_17 8 0 (dk_at dksX0_noLetters_7 21 rfl rfl)
theorem dX0_noLetters_188 : decode cX0_noLetters 188 = .ok (.iastore, 1) := dk_79 (dk_at dksX0_noLetters_8 0 rfl rfl)
theorem dX0_noLetters_189 : decode cX0_noLetters 189 = .ok (.dup, 1) := dk_89 (dk_at dksX0_noLetters_8 1 rfl rfl)
theorem dX0_noLetters_190 : decode cX0_noLetters 190 = .ok (.iconst 3, 1) := dk_6 (dk_at dksX0_noLetters_8 2 rfl rfl)
theorem dX0_noLetters_191 : decode cX0_noLetters 191 = .ok (.ldc 48, 2) := dk_18 48 (dk_at dksX0_noLetters_8 3 rfl rfl)
theorem dX0_noLetters_193 : decode cX0_noLetters 193 = .ok (.iastore, 1) := dk_79 (dk_at dksX0_noLetters_8 5 rfl rfl)
theorem dX0_noLetters_194 : decode cX0_noLetters 194 = .ok (.dup, 1) := dk_89 (dk_at dksX0_noLetters_8 6 rfl rfl)
theorem dX0_noLetters_195 : decode cX0_noLetters 195 = .ok (.iconst 4, 1) := dk_7 (dk_at dksX0_noLetters_8 7 rfl rfl)
theorem dX0_noLetters_196 : decode cX0_noLetters 196 = .ok (.ldc 49, 2) := dk_18 49 (dk_at dksX0_noLetters_8 8 rfl rfl)
theorem dX0_noLetters_198 : decode cX0_noLetters 198 = .ok (.iastore, 1) := dk_79 (dk_at dksX0_noLetters_8 10 rfl rfl)
theorem dX0_noLetters_199 : decode cX0_noLetters 199 = .ok (.dup, 1) := dk_89 (dk_at dksX0_noLetters_8 11 rfl rfl)
theorem dX0_noLetters_200 : decode cX0_noLetters 200 = .ok (.iconst 5, 1) := dk_8 (dk_at dksX0_noLetters_8 12 rfl rfl)
theorem dX0_noLetters_201 : decode cX0_noLetters 201 = .ok (.ldc 50, 2) := dk_18 50 (dk_at dksX0_noLetters_8 13 rfl rfl)
theorem dX0_noLetters_203 : decode cX0_noLetters 203 = .ok (.iastore, 1) := dk_79 (dk_at dksX0_noLetters_8 15 rfl rfl)
theorem dX0_noLetters_204 : decode cX0_noLetters 204 = .ok (.dup, 1) := dk_89 (dk_at dksX0_noLetters_8 16 rfl rfl)
theorem dX0_noLetters_205 : decode cX0_noLetters 205 = .ok (.bipush 6, 2) := dk_16 6 (dk_at dksX0_noLetters_8 17 rfl rfl)
theorem dX0_noLetters_207 : decode cX0_noLetters 207 = .ok (.ldc 10, 2) := dk_18 10 (dk_at dksX0_noLetters_8 19 rfl rfl)
theorem dX0_noLetters_209 : decode cX0_noLetters 209 = .ok (.iastore, 1) := dk_79 (dk_at dksX0_noLetters_8 21 rfl rfl)
theorem dX0_noLetters_210 : decode cX0_noLetters 210 = .ok (.dup, 1) := dk_89 (dk_at dksX0_noLetters_8 22 rfl rfl)
theorem dX0_noLetters_211 : decode cX0_noLetters 211 = .ok (.bipush 7, 2) := dk_16 7 (dk_at dksX0_noLetters_9 0 rfl rfl)
theorem dX0_noLetters_213 : decode cX0_noLetters 213 = .ok (.ldc 51, 2) := dk_18 51 (dk_at dksX0_noLetters_9 2 rfl rfl)
theorem dX0_noLetters_215 : decode cX0_noLetters 215 = .ok (.iastore, 1) := dk_79 (dk_at dksX0_noLetters_9 4 rfl rfl)
theorem dX0_noLetters_216 : decode cX0_noLetters 216 = .ok (.astore_n 2, 1) := dk_77 (dk_at dksX0_noLetters_9 5 rfl rfl)
theorem dX0_noLetters_217 : decode cX0_noLetters 217 = .ok (.aload_n 2, 1) := dk_44 (dk_at dksX0_noLetters_9 6 rfl rfl)
theorem dX0_noLetters_218 : decode cX0_noLetters 218 = .ok (.astore_n 3, 1) := dk_78 (dk_at dksX0_noLetters_9 7 rfl rfl)
theorem dX0_noLetters_219 : decode cX0_noLetters 219 = .ok (.aload_n 3, 1) := dk_45 (dk_at dksX0_noLetters_9 8 rfl rfl)
theorem dX0_noLetters_220 : decode cX0_noLetters 220 = .ok (.arraylength, 1) := dk_190 (dk_at dksX0_noLetters_9 9 rfl rfl)
theorem dX0_noLetters_221 : decode cX0_noLetters 221 = .ok (.istore 4, 2) := dk_54 4 (dk_at dksX0_noLetters_9 10 rfl rfl)
theorem dX0_noLetters_223 : decode cX0_noLetters 223 = .ok (.iconst 0, 1) := dk_3 (dk_at dksX0_noLetters_9 12 rfl rfl)
theorem dX0_noLetters_224 : decode cX0_noLetters 224 = .ok (.istore 5, 2) := dk_54 5 (dk_at dksX0_noLetters_9 13 rfl rfl)
theorem dX0_noLetters_226 : decode cX0_noLetters 226 = .ok (.iload 5, 2) := dk_21 5 (dk_at dksX0_noLetters_9 15 rfl rfl)
theorem dX0_noLetters_228 : decode cX0_noLetters 228 = .ok (.iload 4, 2) := dk_21 4 (dk_at dksX0_noLetters_9 17 rfl rfl)
theorem dX0_noLetters_230 : decode cX0_noLetters 230 = .ok (.if_icmp .ge 182, 3) := dk_162 0 182 (dk_at dksX0_noLetters_9 19 rfl rfl)
theorem dX0_noLetters_233 : decode cX0_noLetters 233 = .ok (.aload_n 3, 1) := dk_45 (dk_at dksX0_noLetters_9 22 rfl rfl)
theorem dX0_noLetters_234 : decode cX0_noLetters 234 = .ok (.iload 5, 2) := dk_21 5 (dk_at dksX0_noLetters_10 0 rfl rfl)
theorem dX0_noLetters_236 : decode cX0_noLetters 236 = .ok (.iaload, 1) := dk_46 (dk_at dksX0_noLetters_10 2 rfl rfl)
theorem dX0_noLetters_237 : decode cX0_noLetters 237 = .ok (.istore 6, 2) := dk_54 6 (dk_at dksX0_noLetters_10 3 rfl rfl)
theorem dX0_noLetters_239 : decode cX0_noLetters 239 = .ok (.new 12, 3) := dk_187 0 12 (dk_at dksX0_noLetters_10 5 rfl rfl)
theorem dX0_noLetters_242 : decode cX0_noLetters 242 = .ok (.dup, 1) := dk_89 (dk_at dksX0_noLetters_10 8 rfl rfl)
theorem dX0_noLetters_243 : decode cX0_noLetters 243 = .ok (.invokespecial 14, 3) := dk_183 0 14 (dk_at dksX0_noLetters_10 9 rfl rfl)
theorem dX0_noLetters_246 : decode cX0_noLetters 246 = .ok (.astore 7, 2) := dk_58 7 (dk_at dksX0_noLetters_10 12 rfl rfl)
theorem dX0_noLetters_248 : decode cX0_noLetters 248 = .ok (.aload 7, 2) := dk_25 7 (dk_at dksX0_noLetters_10 14 rfl rfl)
theorem dX0_noLetters_250 : decode cX0_noLetters 250 = .ok (.iload 6, 2) := dk_21 6 (dk_at dksX0_noLetters_10 16 rfl rfl)
theorem dX0_noLetters_252 : decode cX0_noLetters 252 = .ok (.ldc 52, 2) := dk_18 52 (dk_at dksX0_noLetters_10 18 rfl rfl)
theorem dX0_noLetters_254 : decode cX0_noLetters 254 = .ok (.ior, 1) := dk_128 (dk_at dksX0_noLetters_10 20 rfl rfl)
theorem dX0_noLetters_255 : decode cX0_noLetters 255 = .ok (.invokevirtual 15, 3) := dk_182 0 15 (dk_at dksX0_noLetters_10 21 rfl rfl)
theorem dX0_noLetters_258 : decode cX0_noLetters 258 = .ok (.istore 8, 2) := dk_54 8 (dk_at dksX0_noLetters_11 0 rfl rfl)
theorem dX0_noLetters_260 : decode cX0_noLetters 260 = .ok (.iload 8, 2) := dk_21 8 (dk_at dksX0_noLetters_11 2 rfl rfl)
theorem dX0_noLetters_262 : decode cX0_noLetters 262 = .ok (.iload 6, 2) := dk_21 6 (dk_at dksX0_noLetters_11 4 rfl rfl)
theorem dX0_noLetters_264 : decode cX0_noLetters 264 = .ok (.sipush 2048, 3) := dk_17 8 0 (dk_at dksX0_noLetters_11 6 rfl rfl)
theorem dX0_noLetters_267 : decode cX0_noLetters 267 = .ok (.if_icmp .ge 7, 3) := dk_162 0 7 (dk_at dksX0_noLetters_11 9 rfl rfl)
theorem dX0_noLetters_270 : decode cX0_noLetters 270 = .ok (.iconst 2, 1) := dk_5 (dk_at dksX0_noLetters_11 12 rfl rfl)
theorem dX0_noLetters_271 : decode cX0_noLetters 271 = .ok (.goto 15, 3) := dk_167 0 15 (dk_at dksX0_noLetters_11 13 rfl rfl)
theorem dX0_noLetters_274 : decode cX0_noLetters 274 = .ok (.iload 6, 2) := dk_21 6 (dk_at dksX0_noLetters_11 16 rfl rfl)
theorem dX0_noLetters_276 : decode cX0_noLetters 276 = .ok (.ldc 10, 2) := dk_18 10 (dk_at dksX0_noLetters_11 18 rfl rfl)
theorem dX0_noLetters_278 : decode cX0_noLetters 278 = .ok (.if_icmp .ge 7, 3) := dk_162 0 7 (dk_at dksX0_noLetters_11 20 rfl rfl)
theorem dX0_noLetters_281 : decode cX0_noLetters 281 = .ok (.iconst 3, 1) := dk_6 (dk_at dksX0_noLetters_11 23 rfl rfl)
theorem dX0_noLetters_282 : decode cX0_noLetters 282 = .ok (.goto 4, 3) := dk_167 0 4 (dk_at dksX0_noLetters_12 0 rfl rfl)
theorem dX0_noLetters_285 : decode cX0_noLetters 285 = .ok (.iconst 4, 1) := dk_7 (dk_at dksX0_noLetters_12 3 rfl rfl)
theorem dX0_noLetters_286 : decode cX0_noLetters 286 = .ok (.if_icmp .ne 68, 3) := dk_160 0 68 (dk_at dksX0_noLetters_12 4 rfl rfl)
theorem dX0_noLetters_289 : decode cX0_noLetters 289 = .ok (.aload 7, 2) := dk_25 7 (dk_at dksX0_noLetters_12 7 rfl rfl)
theorem dX0_noLetters_291 : decode cX0_noLetters 291 = .ok (.invokevirtual 44, 3) := dk_182 0 44 (dk_at dksX0_noLetters_12 9 rfl rfl)
theorem dX0_noLetters_294 : decode cX0_noLetters 294 = .ok (.iload 8, 2) := dk_21 8 (dk_at dksX0_noLetters_12 12 rfl rfl)
theorem dX0_noLetters_296 : decode cX0_noLetters 296 = .ok (.if_icmp .ne 58, 3) := dk_160 0 58 (dk_at dksX0_noLetters_12 14 rfl rfl)
theorem dX0_noLetters_299 : decode cX0_noLetters 299 = .ok (.aload 7, 2) := dk_25 7 (dk_at dksX0_noLetters_12 17 rfl rfl)
theorem dX0_noLetters_301 : decode cX0_noLetters 301 = .ok (.iconst 0, 1) := dk_3 (dk_at dksX0_noLetters_12 19 rfl rfl)
theorem dX0_noLetters_302 : decode cX0_noLetters 302 = .ok (.iload 8, 2) := dk_21 8 (dk_at dksX0_noLetters_12 20 rfl rfl)
theorem dX0_noLetters_304 : decode cX0_noLetters 304 = .ok (.invokevirtual 33, 3) := dk_182 0 33 (dk_at dksX0_noLetters_13 0 rfl rfl)
theorem dX0_noLetters_307 : decode cX0_noLetters 307 = .ok (.iload 6, 2) := dk_21 6 (dk_at dksX0_noLetters_13 3 rfl rfl)
theorem dX0_noLetters_309 : decode cX0_noLetters 309 = .ok (.ldc 50, 2) := dk_18 50 (dk_at dksX0_noLetters_13 5 rfl rfl)
theorem dX0_noLetters_311 : decode cX0_noLetters 311 = .ok (.if_icmp .le 7, 3) := dk_164 0 7 (dk_at dksX0_noLetters_13 7 rfl rfl)
theorem dX0_noLetters_314 : decode cX0_noLetters 314 = .ok (.iconst 2, 1) := dk_5 (dk_at dksX0_noLetters_13 10 rfl rfl)
theorem dX0_noLetters_315 : decode cX0_noLetters 315 = .ok (.goto 4, 3) := dk_167 0 4 (dk_at dksX0_noLetters_13 11 rfl rfl)
theorem dX0_noLetters_318 : decode cX0_noLetters 318 = .ok (.iconst 1, 1) := dk_4 (dk_at dksX0_noLetters_13 14 rfl rfl)
theorem dX0_noLetters_319 : decode cX0_noLetters 319 = .ok (.if_icmp .ne 35, 3) := dk_160 0 35 (dk_at dksX0_noLetters_13 15 rfl rfl)
theorem dX0_noLetters_322 : decode cX0_noLetters 322 = .ok (.aload 7, 2) := dk_25 7 (dk_at dksX0_noLetters_13 18 rfl rfl)
theorem dX0_noLetters_324 : decode cX0_noLetters 324 = .ok (.iconst 0, 1) := dk_3 (dk_at dksX0_noLetters_13 20 rfl rfl)
theorem dX0_noLetters_325 : decode cX0_noLetters 325 = .ok (.invokevirtual 37, 3) := dk_182 0 37 (dk_at dksX0_noLetters_13 21 rfl rfl)
theorem dX0_noLetters_328 : decode cX0_noLetters 328 = .ok (.iload 6, 2) := dk_21 6 (dk_at dksX0_noLetters_14 0 rfl rfl)
theorem dX0_noLetters_330 : decode cX0_noLetters 330 = .ok (.ldc 50, 2) := dk_18 50 (dk_at dksX0_noLetters_14 2 rfl rfl)
theorem dX0_noLetters_332 : decode cX0_noLetters 332 = .ok (.if_icmp .le 17, 3) := dk_164 0 17 (dk_at dksX0_noLetters_14 4 rfl rfl)
theorem dX0_noLetters_335 : decode cX0_noLetters 335 = .ok (.ldc 9, 2) := dk_18 9 (dk_at dksX0_noLetters_14 7 rfl rfl)
theorem dX0_noLetters_337 : decode cX0_noLetters 337 = .ok (.iload 6, 2) := dk_21 6 (dk_at dksX0_noLetters_14 9 rfl rfl)
theorem dX0_noLetters_339 : decode cX0_noLetters 339 = .ok (.ldc 10, 2) := dk_18 10 (dk_at dksX0_noLetters_14 11 rfl rfl)
theorem dX0_noLetters_341 : decode cX0_noLetters 341 = .ok (.isub, 1) := dk_100 (dk_at dksX0_noLetters_14 13 rfl rfl)
theorem dX0_noLetters_342 : decode cX0_noLetters 342 = .ok (.bipush 10, 2) := dk_16 10 (dk_at dksX0_noLetters_14 14 rfl rfl)
theorem dX0_noLetters_344 : decode cX0_noLetters 344 = .ok (.ishr, 1) := dk_122 (dk_at dksX0_noLetters_14 16 rfl rfl)
theorem dX0_noLetters_345 : decode cX0_noLetters 345 = .ok (.iadd, 1) := dk_96 (dk_at dksX0_noLetters_14 17 rfl rfl)
theorem dX0_noLetters_346 : decode cX0_noLetters 346 = .ok (.goto 5, 3) := dk_167 0 5 (dk_at dksX0_noLetters_14 18 rfl rfl)
theorem dX0_noLetters_349 : decode cX0_noLetters 349 = .ok (.iload 6, 2) := dk_21 6 (dk_at dksX0_noLetters_14 21 rfl rfl)
theorem dX0_noLetters_351 : decode cX0_noLetters 351 = .ok (.if_icmp .eq 5, 3) := dk_159 0 5 (dk_at dksX0_noLetters_15 0 rfl rfl)
theorem dX0_noLetters_354 : decode cX0_noLetters 354 = .ok (.iconst 0, 1) := dk_3 (dk_at dksX0_noLetters_15 3 rfl rfl)
theorem dX0_noLetters_355 : decode cX0_noLetters 355 = .ok (.ireturn, 1) := dk_172 (dk_at dksX0_noLetters_15 4 rfl rfl)
theorem dX0_noLetters_356 : decode cX0_noLetters 356 = .ok (.aload 7, 2) := dk_25 7 (dk_at dksX0_noLetters_15 5 rfl rfl)
theorem dX0_noLetters_358 : decode cX0_noLetters 358 = .ok (.iload 8, 2) := dk_21 8 (dk_at dksX0_noLetters_15 7 rfl rfl)
theorem dX0_noLetters_360 : decode cX0_noLetters 360 = .ok (.iconst 1, 1) := dk_4 (dk_at dksX0_noLetters_15 9 rfl rfl)
theorem dX0_noLetters_361 : decode cX0_noLetters 361 = .ok (.isub, 1) := dk_100 (dk_at dksX0_noLetters_15 10 rfl rfl)
theorem dX0_noLetters_362 : decode cX0_noLetters 362 = .ok (.invokevirtual 53, 3) := dk_182 0 53 (dk_at dksX0_noLetters_15 11 rfl rfl)
theorem dX0_noLetters_365 : decode cX0_noLetters 365 = .ok (.aload 7, 2) := dk_25 7 (dk_at dksX0_noLetters_15 14 rfl rfl)
theorem dX0_noLetters_367 : decode cX0_noLetters 367 = .ok (.invokevirtual 44, 3) := dk_182 0 44 (dk_at dksX0_noLetters_15 16 rfl rfl)
theorem dX0_noLetters_370 : decode cX0_noLetters 370 = .ok (.iload 8, 2) := dk_21 8 (dk_at dksX0_noLetters_15 19 rfl rfl)
theorem dX0_noLetters_372 : decode cX0_noLetters 372 = .ok (.iconst 1, 1) := dk_4 (dk_at dksX0_noLetters_15 21 rfl rfl)
theorem dX0_noLetters_373 : decode cX0_noLetters 373 = .ok (.isub, 1) := dk_100 (dk_at dksX0_noLetters_15 22 rfl rfl)
theorem dX0_noLetters_374 : decode cX0_noLetters 374 = .ok (.if_icmp .ne 30, 3) := dk_160 0 30 (dk_at dksX0_noLetters_16 0 rfl rfl)
theorem dX0_noLetters_377 : decode cX0_noLetters 377 = .ok (.aload 7, 2) := dk_25 7 (dk_at dksX0_noLetters_16 3 rfl rfl)
theorem dX0_noLetters_379 : decode cX0_noLetters 379 = .ok (.iconst 0, 1) := dk_3 (dk_at dksX0_noLetters_16 5 rfl rfl)
theorem dX0_noLetters_380 : decode cX0_noLetters 380 = .ok (.iload 8, 2) := dk_21 8 (dk_at dksX0_noLetters_16 6 rfl rfl)
theorem dX0_noLetters_382 : decode cX0_noLetters 382 = .ok (.iconst 1, 1) := dk_4 (dk_at dksX0_noLetters_16 8 rfl rfl)
theorem dX0_noLetters_383 : decode cX0_noLetters 383 = .ok (.isub, 1) := dk_100 (dk_at dksX0_noLetters_16 9 rfl rfl)
theorem dX0_noLetters_384 : decode cX0_noLetters 384 = .ok (.invokevirtual 33, 3) := dk_182 0 33 (dk_at dksX0_noLetters_16 10 rfl rfl)
theorem dX0_noLetters_387 : decode cX0_noLetters 387 = .ok (.iconst (-1), 1) := dk_2 (dk_at dksX0_noLetters_16 13 rfl rfl)
theorem dX0_noLetters_388 : decode cX0_noLetters 388 = .ok (.if_icmp .ne 16, 3) := dk_160 0 16 (dk_at dksX0_noLetters_16 14 rfl rfl)
theorem dX0_noLetters_391 : decode cX0_noLetters 391 = .ok (.aload 7, 2) := dk_25 7 (dk_at dksX0_noLetters_16 17 rfl rfl)
theorem dX0_noLetters_393 : decode cX0_noLetters 393 = .ok (.iload 8, 2) := dk_21 8 (dk_at dksX0_noLetters_16 19 rfl rfl)
theorem dX0_noLetters_395 : decode cX0_noLetters 395 = .ok (.iconst 1, 1) := dk_4 (dk_at dksX0_noLetters_16 21 rfl rfl)
theorem dX0_noLetters_396 : decode cX0_noLetters 396 = .ok (.isub, 1) := dk_100 (dk_at dksX0_noLetters_16 22 rfl rfl)
theorem dX0_noLetters_397 : decode cX0_noLetters 397 = .ok (.iconst 0, 1) := dk_3 (dk_at dksX0_noLetters_16 23 rfl rfl)
theorem dX0_noLetters_398 : decode cX0_noLetters 398 = .ok (.invokevirtual 33, 3) := dk_182 0 33 (dk_at dksX0_noLetters_17 0 rfl rfl)
theorem dX0_noLetters_401 : decode cX0_noLetters 401 = .ok (.ifCond .eq 5, 3) := dk_153 0 5 (dk_at dksX0_noLetters_17 3 rfl rfl)
theorem dX0_noLetters_404 : decode cX0_noLetters 404 = .ok (.iconst 0, 1) := dk_3 (dk_at dksX0_noLetters_17 6 rfl rfl)
theorem dX0_noLetters_405 : decode cX0_noLetters 405 = .ok (.ireturn, 1) := dk_172 (dk_at dksX0_noLetters_17 7 rfl rfl)
theorem dX0_noLetters_406 : decode cX0_noLetters 406 = .ok (.iinc 5 1, 3) := dk_132 5 1 (dk_at dksX0_noLetters_17 8 rfl rfl)
theorem dX0_noLetters_409 : decode cX0_noLetters 409 = .ok (.goto (-183), 3) := dk_167 255 73 (dk_at dksX0_noLetters_17 11 rfl rfl)
theorem dX0_noLetters_412 : decode cX0_noLetters 412 = .ok (.new 12, 3) := dk_187 0 12 (dk_at dksX0_noLetters_17 14 rfl rfl)
theorem dX0_noLetters_415 : decode cX0_noLetters 415 = .ok (.dup, 1) := dk_89 (dk_at dksX0_noLetters_17 17 rfl rfl)
theorem dX0_noLetters_416 : decode cX0_noLetters 416 = .ok (.invokespecial 14, 3) := dk_183 0 14 (dk_at dksX0_noLetters_17 18 rfl rfl)
theorem dX0_noLetters_419 : decode cX0_noLetters 419 = .ok (.astore_n 3, 1) := dk_78 (dk_at dksX0_noLetters_17 21 rfl rfl)
theorem dX0_noLetters_420 : decode cX0_noLetters 420 = .ok (.iconst 0, 1) := dk_3 (dk_at dksX0_noLetters_17 22 rfl rfl)
theorem dX0_noLetters_421 : decode cX0_noLetters 421 = .ok (.istore 4, 2) := dk_54 4 (dk_at dksX0_noLetters_18 0 rfl rfl)
theorem dX0_noLetters_423 : decode cX0_noLetters 423 = .ok (.iload 4, 2) := dk_21 4 (dk_at dksX0_noLetters_18 2 rfl rfl)
theorem dX0_noLetters_425 : decode cX0_noLetters 425 = .ok (.sipush 255, 3) := dk_17 0 255 (dk_at dksX0_noLetters_18 4 rfl rfl)
theorem dX0_noLetters_428 : decode cX0_noLetters 428 = .ok (.if_icmp .ge 19, 3) := dk_162 0 19 (dk_at dksX0_noLetters_18 7 rfl rfl)
theorem dX0_noLetters_431 : decode cX0_noLetters 431 = .ok (.aload_n 3, 1) := dk_45 (dk_at dksX0_noLetters_18 10 rfl rfl)
theorem dX0_noLetters_432 : decode cX0_noLetters 432 = .ok (.ldc 10, 2) := dk_18 10 (dk_at dksX0_noLetters_18 11 rfl rfl)
theorem dX0_noLetters_434 : decode cX0_noLetters 434 = .ok (.iload 4, 2) := dk_21 4 (dk_at dksX0_noLetters_18 13 rfl rfl)
theorem dX0_noLetters_436 : decode cX0_noLetters 436 = .ok (.iadd, 1) := dk_96 (dk_at dksX0_noLetters_18 15 rfl rfl)
theorem dX0_noLetters_437 : decode cX0_noLetters 437 = .ok (.invokevirtual 15, 3) := dk_182 0 15 (dk_at dksX0_noLetters_18 16 rfl rfl)
theorem dX0_noLetters_440 : decode cX0_noLetters 440 = .ok (.pop, 1) := dk_87 (dk_at dksX0_noLetters_18 19 rfl rfl)
theorem dX0_noLetters_441 : decode cX0_noLetters 441 = .ok (.iinc 4 1, 3) := dk_132 4 1 (dk_at dksX0_noLetters_18 20 rfl rfl)
theorem dX0_noLetters_444 : decode cX0_noLetters 444 = .ok (.goto (-21), 3) := dk_167 255 235 (dk_at dksX0_noLetters_19 0 rfl rfl)
theorem dX0_noLetters_447 : decode cX0_noLetters 447 = .ok (.aload_n 3, 1) := dk_45 (dk_at dksX0_noLetters_19 3 rfl rfl)
theorem dX0_noLetters_448 : decode cX0_noLetters 448 = .ok (.invokevirtual 44, 3) := dk_182 0 44 (dk_at dksX0_noLetters_19 4 rfl rfl)
theorem dX0_noLetters_451 : decode cX0_noLetters 451 = .ok (.sipush 1020, 3) := dk_17 3 252 (dk_at dksX0_noLetters_19 7 rfl rfl)
theorem dX0_noLetters_454 : decode cX0_noLetters 454 = .ok (.if_icmp .ne 64, 3) := dk_160 0 64 (dk_at dksX0_noLetters_19 10 rfl rfl)
theorem dX0_noLetters_457 : decode cX0_noLetters 457 = .ok (.aload_n 3, 1) := dk_45 (dk_at dksX0_noLetters_19 13 rfl rfl)
theorem dX0_noLetters_458 : decode cX0_noLetters 458 = .ok (.ldc 51, 2) := dk_18 51 (dk_at dksX0_noLetters_19 14 rfl rfl)
theorem dX0_noLetters_460 : decode cX0_noLetters 460 = .ok (.invokevirtual 15, 3) := dk_182 0 15 (dk_at dksX0_noLetters_19 16 rfl rfl)
theorem dX0_noLetters_463 : decode cX0_noLetters 463 = .ok (.sipush 1024, 3) := dk_17 4 0 (dk_at dksX0_noLetters_19 19 rfl rfl)
theorem dX0_noLetters_466 : decode cX0_noLetters 466 = .ok (.if_icmp .ne 52, 3) := dk_160 0 52 (dk_at dksX0_noLetters_20 0 rfl rfl)
theorem dX0_noLetters_469 : decode cX0_noLetters 469 = .ok (.aload_n 3, 1) := dk_45 (dk_at dksX0_noLetters_20 3 rfl rfl)
theorem dX0_noLetters_470 : decode cX0_noLetters 470 = .ok (.iconst 0, 1) := dk_3 (dk_at dksX0_noLetters_20 4 rfl rfl)
theorem dX0_noLetters_471 : decode cX0_noLetters 471 = .ok (.invokevirtual 15, 3) := dk_182 0 15 (dk_at dksX0_noLetters_20 5 rfl rfl)
theorem dX0_noLetters_474 : decode cX0_noLetters 474 = .ok (.iconst (-1), 1) := dk_2 (dk_at dksX0_noLetters_20 8 rfl rfl)
theorem dX0_noLetters_475 : decode cX0_noLetters 475 = .ok (.if_icmp .ne 43, 3) := dk_160 0 43 (dk_at dksX0_noLetters_20 9 rfl rfl)
theorem dX0_noLetters_478 : decode cX0_noLetters 478 = .ok (.aload_n 3, 1) := dk_45 (dk_at dksX0_noLetters_20 12 rfl rfl)
theorem dX0_noLetters_479 : decode cX0_noLetters 479 = .ok (.invokevirtual 44, 3) := dk_182 0 44 (dk_at dksX0_noLetters_20 13 rfl rfl)
theorem dX0_noLetters_482 : decode cX0_noLetters 482 = .ok (.sipush 1024, 3) := dk_17 4 0 (dk_at dksX0_noLetters_20 16 rfl rfl)
theorem dX0_noLetters_485 : decode cX0_noLetters 485 = .ok (.if_icmp .ne 33, 3) := dk_160 0 33 (dk_at dksX0_noLetters_20 19 rfl rfl)
theorem dX0_noLetters_488 : decode cX0_noLetters 488 = .ok (.aload_n 3, 1) := dk_45 (dk_at dksX0_noLetters_20 22 rfl rfl)
theorem dX0_noLetters_489 : decode cX0_noLetters 489 = .ok (.iconst 0, 1) := dk_3 (dk_at dksX0_noLetters_20 23 rfl rfl)
theorem dX0_noLetters_490 : decode cX0_noLetters 490 = .ok (.sipush 1024, 3) := dk_17 4 0 (dk_at dksX0_noLetters_21 0 rfl rfl)
theorem dX0_noLetters_493 : decode cX0_noLetters 493 = .ok (.invokevirtual 33, 3) := dk_182 0 33 (dk_at dksX0_noLetters_21 3 rfl rfl)
theorem dX0_noLetters_496 : decode cX0_noLetters 496 = .ok (.sipush 512, 3) := dk_17 2 0 (dk_at dksX0_noLetters_21 6 rfl rfl)
theorem dX0_noLetters_499 : decode cX0_noLetters 499 = .ok (.if_icmp .ne 19, 3) := dk_160 0 19 (dk_at dksX0_noLetters_21 9 rfl rfl)
theorem dX0_noLetters_502 : decode cX0_noLetters 502 = .ok (.aload_n 3, 1) := dk_45 (dk_at dksX0_noLetters_21 12 rfl rfl)
theorem dX0_noLetters_503 : decode cX0_noLetters 503 = .ok (.sipush 511, 3) := dk_17 1 255 (dk_at dksX0_noLetters_21 13 rfl rfl)
theorem dX0_noLetters_506 : decode cX0_noLetters 506 = .ok (.invokevirtual 37, 3) := dk_182 0 37 (dk_at dksX0_noLetters_21 16 rfl rfl)
theorem dX0_noLetters_509 : decode cX0_noLetters 509 = .ok (.ldc 40, 2) := dk_18 40 (dk_at dksX0_noLetters_21 19 rfl rfl)
theorem dX0_noLetters_511 : decode cX0_noLetters 511 = .ok (.if_icmp .ne 7, 3) := dk_160 0 7 (dk_at dksX0_noLetters_21 21 rfl rfl)
theorem dX0_noLetters_514 : decode cX0_noLetters 514 = .ok (.iconst 1, 1) := dk_4 (dk_at dksX0_noLetters_22 0 rfl rfl)
theorem dX0_noLetters_515 : decode cX0_noLetters 515 = .ok (.goto 4, 3) := dk_167 0 4 (dk_at dksX0_noLetters_22 1 rfl rfl)
theorem dX0_noLetters_518 : decode cX0_noLetters 518 = .ok (.iconst 0, 1) := dk_3 (dk_at dksX0_noLetters_22 4 rfl rfl)
theorem dX0_noLetters_519 : decode cX0_noLetters 519 = .ok (.ireturn, 1) := dk_172 (dk_at dksX0_noLetters_22 5 rfl rfl)
abbrev cX0_letters : ByteArray := method_8_code
def yX0_letters : MethodName := ⟨RX0, "letters", "([I)Z"⟩
def dkwX0_letters_16 : List UInt8 := [167, 0, 4, 4, 96, 54, 4, 132, 8, 1, 167, 255, 157, 4, 172]
abbrev dktX0_letters_16 : List UInt8 := dkwX0_letters_16 ++ []
def dkwX0_letters_15 : List UInt8 := [18, 10, 100, 17, 3, 255, 126, 96, 159, 0, 5, 3, 172, 21, 4, 21, 5, 18, 50, 164, 0, 7, 5]
abbrev dktX0_letters_15 : List UInt8 := dkwX0_letters_15 ++ dktX0_letters_16
def dkwX0_letters_14 : List UInt8 := [122, 96, 160, 0, 33, 21, 5, 18, 50, 164, 0, 28, 43, 21, 4, 4, 96, 182, 0, 37, 18, 11, 21, 5]
abbrev dktX0_letters_14 : List UInt8 := dkwX0_letters_14 ++ dktX0_letters_15
def dkwX0_letters_13 : List UInt8 := [182, 0, 37, 21, 5, 18, 10, 162, 0, 8, 21, 5, 167, 0, 14, 18, 9, 21, 5, 18, 10, 100, 16, 10]
abbrev dktX0_letters_13 : List UInt8 := dkwX0_letters_13 ++ dktX0_letters_14
def dkwX0_letters_12 : List UInt8 := [3, 54, 4, 4, 54, 8, 21, 8, 28, 162, 0, 99, 42, 21, 8, 46, 184, 0, 67, 54, 5, 43, 21, 4]
abbrev dktX0_letters_12 : List UInt8 := dkwX0_letters_12 ++ dktX0_letters_13
def dkwX0_letters_11 : List UInt8 := [54, 7, 43, 21, 6, 43, 182, 0, 44, 21, 6, 100, 182, 0, 33, 29, 21, 7, 100, 159, 0, 5, 3, 172]
abbrev dktX0_letters_11 : List UInt8 := dkwX0_letters_11 ++ dktX0_letters_12
def dkwX0_letters_10 : List UInt8 := [18, 10, 162, 0, 7, 6, 167, 0, 4, 7, 54, 6, 21, 5, 18, 50, 164, 0, 7, 5, 167, 0, 4, 4]
abbrev dktX0_letters_10 : List UInt8 := dkwX0_letters_10 ++ dktX0_letters_11
def dkwX0_letters_9 : List UInt8 := [17, 0, 128, 162, 0, 7, 4, 167, 0, 27, 21, 5, 17, 8, 0, 162, 0, 7, 5, 167, 0, 15, 21, 5]
abbrev dktX0_letters_9 : List UInt8 := dkwX0_letters_9 ++ dktX0_letters_10
def dkwX0_letters_8 : List UInt8 := [132, 5, 1, 167, 255, 164, 28, 5, 162, 0, 5, 4, 172, 42, 3, 46, 184, 0, 67, 54, 5, 21, 5]
abbrev dktX0_letters_8 : List UInt8 := dkwX0_letters_8 ++ dktX0_letters_9
def dkwX0_letters_7 : List UInt8 := [182, 0, 37, 18, 11, 21, 6, 18, 10, 100, 17, 3, 255, 126, 96, 159, 0, 5, 3, 172, 132, 4, 2]
abbrev dktX0_letters_7 : List UInt8 := dkwX0_letters_7 ++ dktX0_letters_8
def dkwX0_letters_6 : List UInt8 := [21, 4, 182, 0, 37, 18, 9, 21, 6, 18, 10, 100, 16, 10, 122, 96, 160, 0, 26, 43, 21, 4, 4, 96]
abbrev dktX0_letters_6 : List UInt8 := dkwX0_letters_6 ++ dktX0_letters_7
def dkwX0_letters_5 : List UInt8 := [162, 0, 22, 43, 21, 4, 182, 0, 37, 21, 6, 159, 0, 5, 3, 172, 132, 4, 1, 167, 0, 51, 43]
abbrev dktX0_letters_5 : List UInt8 := dkwX0_letters_5 ++ dktX0_letters_6
def dkwX0_letters_4 : List UInt8 := [3, 54, 5, 21, 5, 28, 162, 0, 92, 42, 21, 5, 46, 184, 0, 67, 54, 6, 21, 6, 18, 10]
abbrev dktX0_letters_4 : List UInt8 := dkwX0_letters_4 ++ dktX0_letters_5
def dkwX0_letters_3 : List UInt8 := [132, 4, 1, 167, 255, 211, 43, 3, 43, 182, 0, 44, 182, 0, 33, 29, 159, 0, 5, 3, 172, 3, 54, 4]
abbrev dktX0_letters_3 : List UInt8 := dkwX0_letters_3 ++ dktX0_letters_4
def dkwX0_letters_2 : List UInt8 := [3, 172, 29, 42, 21, 4, 46, 184, 0, 67, 18, 50, 164, 0, 7, 5, 167, 0, 4, 4, 96, 62]
abbrev dktX0_letters_2 : List UInt8 := dkwX0_letters_2 ++ dktX0_letters_3
def dkwX0_letters_1 : List UInt8 := [62, 3, 54, 4, 21, 4, 28, 162, 0, 45, 43, 42, 21, 4, 46, 184, 0, 67, 182, 0, 15, 156, 0, 5]
abbrev dktX0_letters_1 : List UInt8 := dkwX0_letters_1 ++ dktX0_letters_2
def dkwX0_letters_0 : List UInt8 := [187, 0, 12, 89, 183, 0, 14, 76, 42, 190, 16, 40, 162, 0, 8, 42, 190, 167, 0, 5, 16, 40, 61, 3]
abbrev dktX0_letters_0 : List UInt8 := dkwX0_letters_0 ++ dktX0_letters_1
theorem dksX0_letters_0 : cX0_letters.data.toList.drop 0 = dktX0_letters_0 := by decide +kernel
theorem dksX0_letters_1 : cX0_letters.data.toList.drop 24 = dktX0_letters_1 := dk_seg dksX0_letters_0 24 rfl rfl
theorem dksX0_letters_2 : cX0_letters.data.toList.drop 48 = dktX0_letters_2 := dk_seg dksX0_letters_1 24 rfl rfl
theorem dksX0_letters_3 : cX0_letters.data.toList.drop 70 = dktX0_letters_3 := dk_seg dksX0_letters_2 22 rfl rfl
theorem dksX0_letters_4 : cX0_letters.data.toList.drop 94 = dktX0_letters_4 := dk_seg dksX0_letters_3 24 rfl rfl
theorem dksX0_letters_5 : cX0_letters.data.toList.drop 116 = dktX0_letters_5 := dk_seg dksX0_letters_4 22 rfl rfl
theorem dksX0_letters_6 : cX0_letters.data.toList.drop 139 = dktX0_letters_6 := dk_seg dksX0_letters_5 23 rfl rfl
theorem dksX0_letters_7 : cX0_letters.data.toList.drop 163 = dktX0_letters_7 := dk_seg dksX0_letters_6 24 rfl rfl
theorem dksX0_letters_8 : cX0_letters.data.toList.drop 186 = dktX0_letters_8 := dk_seg dksX0_letters_7 23 rfl rfl
theorem dksX0_letters_9 : cX0_letters.data.toList.drop 209 = dktX0_letters_9 := dk_seg dksX0_letters_8 23 rfl rfl
theorem dksX0_letters_10 : cX0_letters.data.toList.drop 233 = dktX0_letters_10 := dk_seg dksX0_letters_9 24 rfl rfl
theorem dksX0_letters_11 : cX0_letters.data.toList.drop 257 = dktX0_letters_11 := dk_seg dksX0_letters_10 24 rfl rfl
theorem dksX0_letters_12 : cX0_letters.data.toList.drop 281 = dktX0_letters_12 := dk_seg dksX0_letters_11 24 rfl rfl
theorem dksX0_letters_13 : cX0_letters.data.toList.drop 305 = dktX0_letters_13 := dk_seg dksX0_letters_12 24 rfl rfl
theorem dksX0_letters_14 : cX0_letters.data.toList.drop 329 = dktX0_letters_14 := dk_seg dksX0_letters_13 24 rfl rfl
theorem dksX0_letters_15 : cX0_letters.data.toList.drop 353 = dktX0_letters_15 := dk_seg dksX0_letters_14 24 rfl rfl
theorem dksX0_letters_16 : cX0_letters.data.toList.drop 376 = dktX0_letters_16 := dk_seg dksX0_letters_15 23 rfl rfl
theorem dX0_letters_0 : decode cX0_letters 0 = .ok (.new 12, 3) := dk_187 0 12 (dk_at dksX0_letters_0 0 rfl rfl)
theorem dX0_letters_3 : decode cX0_letters 3 = .ok (.dup, 1) := dk_89 (dk_at dksX0_letters_0 3 rfl rfl)
theorem dX0_letters_4 : decode cX0_letters 4 = .ok (.invokespecial 14, 3) := dk_183 0 14 (dk_at dksX0_letters_0 4 rfl rfl)
theorem dX0_letters_7 : decode cX0_letters 7 = .ok (.astore_n 1, 1) := dk_76 (dk_at dksX0_letters_0 7 rfl rfl)
theorem dX0_letters_8 : decode cX0_letters 8 = .ok (.aload_n 0, 1) := dk_42 (dk_at dksX0_letters_0 8 rfl rfl)
theorem dX0_letters_9 : decode cX0_letters 9 = .ok (.arraylength, 1) := dk_190 (dk_at dksX0_letters_0 9 rfl rfl)
theorem dX0_letters_10 : decode cX0_letters 10 = .ok (.bipush 40, 2) := dk_16 40 (dk_at dksX0_letters_0 10 rfl rfl)
theorem dX0_letters_12 : decode cX0_letters 12 = .ok (.if_icmp .ge 8, 3) := dk_162 0 8 (dk_at dksX0_letters_0 12 rfl rfl)
theorem dX0_letters_15 : decode cX0_letters 15 = .ok (.aload_n 0, 1) := dk_42 (dk_at dksX0_letters_0 15 rfl rfl)
theorem dX0_letters_16 : decode cX0_letters 16 = .ok (.arraylength, 1) := dk_190 (dk_at dksX0_letters_0 16 rfl rfl)
theorem dX0_letters_17 : decode cX0_letters 17 = .ok (.goto 5, 3) := dk_167 0 5 (dk_at dksX0_letters_0 17 rfl rfl)
theorem dX0_letters_20 : decode cX0_letters 20 = .ok (.bipush 40, 2) := dk_16 40 (dk_at dksX0_letters_0 20 rfl rfl)
theorem dX0_letters_22 : decode cX0_letters 22 = .ok (.istore_n 2, 1) := dk_61 (dk_at dksX0_letters_0 22 rfl rfl)
theorem dX0_letters_23 : decode cX0_letters 23 = .ok (.iconst 0, 1) := dk_3 (dk_at dksX0_letters_0 23 rfl rfl)
theorem dX0_letters_24 : decode cX0_letters 24 = .ok (.istore_n 3, 1) := dk_62 (dk_at dksX0_letters_1 0 rfl rfl)
theorem dX0_letters_25 : decode cX0_letters 25 = .ok (.iconst 0, 1) := dk_3 (dk_at dksX0_letters_1 1 rfl rfl)
theorem dX0_letters_26 : decode cX0_letters 26 = .ok (.istore 4, 2) := dk_54 4 (dk_at dksX0_letters_1 2 rfl rfl)
theorem dX0_letters_28 : decode cX0_letters 28 = .ok (.iload 4, 2) := dk_21 4 (dk_at dksX0_letters_1 4 rfl rfl)
theorem dX0_letters_30 : decode cX0_letters 30 = .ok (.iload_n 2, 1) := dk_28 (dk_at dksX0_letters_1 6 rfl rfl)
theorem dX0_letters_31 : decode cX0_letters 31 = .ok (.if_icmp .ge 45, 3) := dk_162 0 45 (dk_at dksX0_letters_1 7 rfl rfl)
theorem dX0_letters_34 : decode cX0_letters 34 = .ok (.aload_n 1, 1) := dk_43 (dk_at dksX0_letters_1 10 rfl rfl)
theorem dX0_letters_35 : decode cX0_letters 35 = .ok (.aload_n 0, 1) := dk_42 (dk_at dksX0_letters_1 11 rfl rfl)
theorem dX0_letters_36 : decode cX0_letters 36 = .ok (.iload 4, 2) := dk_21 4 (dk_at dksX0_letters_1 12 rfl rfl)
theorem dX0_letters_38 : decode cX0_letters 38 = .ok (.iaload, 1) := dk_46 (dk_at dksX0_letters_1 14 rfl rfl)
theorem dX0_letters_39 : decode cX0_letters 39 = .ok (.invokestatic 67, 3) := dk_184 0 67 (dk_at dksX0_letters_1 15 rfl rfl)
theorem dX0_letters_42 : decode cX0_letters 42 = .ok (.invokevirtual 15, 3) := dk_182 0 15 (dk_at dksX0_letters_1 18 rfl rfl)
theorem dX0_letters_45 : decode cX0_letters 45 = .ok (.ifCond .ge 5, 3) := dk_156 0 5 (dk_at dksX0_letters_1 21 rfl rfl)
theorem dX0_letters_48 : decode cX0_letters 48 = .ok (.iconst 0, 1) := dk_3 (dk_at dksX0_letters_2 0 rfl rfl)
theorem dX0_letters_49 : decode cX0_letters 49 = .ok (.ireturn, 1) := dk_172 (dk_at dksX0_letters_2 1 rfl rfl)
theorem dX0_letters_50 : decode cX0_letters 50 = .ok (.iload_n 3, 1) := dk_29 (dk_at dksX0_letters_2 2 rfl rfl)
theorem dX0_letters_51 : decode cX0_letters 51 = .ok (.aload_n 0, 1) := dk_42 (dk_at dksX0_letters_2 3 rfl rfl)
theorem dX0_letters_52 : decode cX0_letters 52 = .ok (.iload 4, 2) := dk_21 4 (dk_at dksX0_letters_2 4 rfl rfl)
theorem dX0_letters_54 : decode cX0_letters 54 = .ok (.iaload, 1) := dk_46 (dk_at dksX0_letters_2 6 rfl rfl)
theorem dX0_letters_55 : decode cX0_letters 55 = .ok (.invokestatic 67, 3) := dk_184 0 67 (dk_at dksX0_letters_2 7 rfl rfl)
theorem dX0_letters_58 : decode cX0_letters 58 = .ok (.ldc 50, 2) := dk_18 50 (dk_at dksX0_letters_2 10 rfl rfl)
theorem dX0_letters_60 : decode cX0_letters 60 = .ok (.if_icmp .le 7, 3) := dk_164 0 7 (dk_at dksX0_letters_2 12 rfl rfl)
theorem dX0_letters_63 : decode cX0_letters 63 = .ok (.iconst 2, 1) := dk_5 (dk_at dksX0_letters_2 15 rfl rfl)
theorem dX0_letters_64 : decode cX0_letters 64 = .ok (.goto 4, 3) := dk_167 0 4 (dk_at dksX0_letters_2 16 rfl rfl)
theorem dX0_letters_67 : decode cX0_letters 67 = .ok (.iconst 1, 1) := dk_4 (dk_at dksX0_letters_2 19 rfl rfl)
theorem dX0_letters_68 : decode cX0_letters 68 = .ok (.iadd, 1) := dk_96 (dk_at dksX0_letters_2 20 rfl rfl)
theorem dX0_letters_69 : decode cX0_letters 69 = .ok (.istore_n 3, 1) := dk_62 (dk_at dksX0_letters_2 21 rfl rfl)
theorem dX0_letters_70 : decode cX0_letters 70 = .ok (.iinc 4 1, 3) := dk_132 4 1 (dk_at dksX0_letters_3 0 rfl rfl)
theorem dX0_letters_73 : decode cX0_letters 73 = .ok (.goto (-45), 3) := dk_167 255 211 (dk_at dksX0_letters_3 3 rfl rfl)
theorem dX0_letters_76 : decode cX0_letters 76 = .ok (.aload_n 1, 1) := dk_43 (dk_at dksX0_letters_3 6 rfl rfl)
theorem dX0_letters_77 : decode cX0_letters 77 = .ok (.iconst 0, 1) := dk_3 (dk_at dksX0_letters_3 7 rfl rfl)
theorem dX0_letters_78 : decode cX0_letters 78 = .ok (.aload_n 1, 1) := dk_43 (dk_at dksX0_letters_3 8 rfl rfl)
theorem dX0_letters_79 : decode cX0_letters 79 = .ok (.invokevirtual 44, 3) := dk_182 0 44 (dk_at dksX0_letters_3 9 rfl rfl)
theorem dX0_letters_82 : decode cX0_letters 82 = .ok (.invokevirtual 33, 3) := dk_182 0 33 (dk_at dksX0_letters_3 12 rfl rfl)
theorem dX0_letters_85 : decode cX0_letters 85 = .ok (.iload_n 3, 1) := dk_29 (dk_at dksX0_letters_3 15 rfl rfl)
theorem dX0_letters_86 : decode cX0_letters 86 = .ok (.if_icmp .eq 5, 3) := dk_159 0 5 (dk_at dksX0_letters_3 16 rfl rfl)
theorem dX0_letters_89 : decode cX0_letters 89 = .ok (.iconst 0, 1) := dk_3 (dk_at dksX0_letters_3 19 rfl rfl)
theorem dX0_letters_90 : decode cX0_letters 90 = .ok (.ireturn, 1) := dk_172 (dk_at dksX0_letters_3 20 rfl rfl)
theorem dX0_letters_91 : decode cX0_letters 91 = .ok (.iconst 0, 1) := dk_3 (dk_at dksX0_letters_3 21 rfl rfl)
theorem dX0_letters_92 : decode cX0_letters 92 = .ok (.istore 4, 2) := dk_54 4 (dk_at dksX0_letters_3 22 rfl rfl)
theorem dX0_letters_94 : decode cX0_letters 94 = .ok (.iconst 0, 1) := dk_3 (dk_at dksX0_letters_4 0 rfl rfl)
theorem dX0_letters_95 : decode cX0_letters 95 = .ok (.istore 5, 2) := dk_54 5 (dk_at dksX0_letters_4 1 rfl rfl)
theorem dX0_letters_97 : decode cX0_letters 97 = .ok (.iload 5, 2) := dk_21 5 (dk_at dksX0_letters_4 3 rfl rfl)
theorem dX0_letters_99 : decode cX0_letters 99 = .ok (.iload_n 2, 1) := dk_28 (dk_at dksX0_letters_4 5 rfl rfl)
theorem dX0_letters_100 : decode cX0_letters 100 = .ok (.if_icmp .ge 92, 3) := dk_162 0 92 (dk_at dksX0_letters_4 6 rfl rfl)
theorem dX0_letters_103 : decode cX0_letters 103 = .ok (.aload_n 0, 1) := dk_42 (dk_at dksX0_letters_4 9 rfl rfl)
theorem dX0_letters_104 : decode cX0_letters 104 = .ok (.iload 5, 2) := dk_21 5 (dk_at dksX0_letters_4 10 rfl rfl)
theorem dX0_letters_106 : decode cX0_letters 106 = .ok (.iaload, 1) := dk_46 (dk_at dksX0_letters_4 12 rfl rfl)
theorem dX0_letters_107 : decode cX0_letters 107 = .ok (.invokestatic 67, 3) := dk_184 0 67 (dk_at dksX0_letters_4 13 rfl rfl)
theorem dX0_letters_110 : decode cX0_letters 110 = .ok (.istore 6, 2) := dk_54 6 (dk_at dksX0_letters_4 16 rfl rfl)
theorem dX0_letters_112 : decode cX0_letters 112 = .ok (.iload 6, 2) := dk_21 6 (dk_at dksX0_letters_4 18 rfl rfl)
theorem dX0_letters_114 : decode cX0_letters 114 = .ok (.ldc 10, 2) := dk_18 10 (dk_at dksX0_letters_4 20 rfl rfl)
theorem dX0_letters_116 : decode cX0_letters 116 = .ok (.if_icmp .ge 22, 3) := dk_162 0 22 (dk_at dksX0_letters_5 0 rfl rfl)
theorem dX0_letters_119 : decode cX0_letters 119 = .ok (.aload_n 1, 1) := dk_43 (dk_at dksX0_letters_5 3 rfl rfl)
theorem dX0_letters_120 : decode cX0_letters 120 = .ok (.iload 4, 2) := dk_21 4 (dk_at dksX0_letters_5 4 rfl rfl)
theorem dX0_letters_122 : decode cX0_letters 122 = .ok (.invokevirtual 37, 3) := dk_182 0 37 (dk_at dksX0_letters_5 6 rfl rfl)
theorem dX0_letters_125 : decode cX0_letters 125 = .ok (.iload 6, 2) := dk_21 6 (dk_at dksX0_letters_5 9 rfl rfl)
theorem dX0_letters_127 : decode cX0_letters 127 = .ok (.if_icmp .eq 5, 3) := dk_159 0 5 (dk_at dksX0_letters_5 11 rfl rfl)
theorem dX0_letters_130 : decode cX0_letters 130 = .ok (.iconst 0, 1) := dk_3 (dk_at dksX0_letters_5 14 rfl rfl)
theorem dX0_letters_131 : decode cX0_letters 131 = .ok (.ireturn, 1) := dk_172 (dk_at dksX0_letters_5 15 rfl rfl)
theorem dX0_letters_132 : decode cX0_letters 132 = .ok (.iinc 4 1, 3) := dk_132 4 1 (dk_at dksX0_letters_5 16 rfl rfl)
theorem dX0_letters_135 : decode cX0_letters 135 = .ok (.goto 51, 3) := dk_167 0 51 (dk_at dksX0_letters_5 19 rfl rfl)
theorem dX0_letters_138 : decode cX0_letters 138 = .ok (.aload_n 1, 1) := dk_43 (dk_at dksX0_letters_5 22 rfl rfl)
theorem dX0_letters_139 : decode cX0_letters 139 = .ok (.iload 4, 2) := dk_21 4 (dk_at dksX0_letters_6 0 rfl rfl)
theorem dX0_letters_141 : decode cX0_letters 141 = .ok (.invokevirtual 37, 3) := dk_182 0 37 (dk_at dksX0_letters_6 2 rfl rfl)
theorem dX0_letters_144 : decode cX0_letters 144 = .ok (.ldc 9, 2) := dk_18 9 (dk_at dksX0_letters_6 5 rfl rfl)
theorem dX0_letters_146 : decode cX0_letters 146 = .ok (.iload 6, 2) := dk_21 6 (dk_at dksX0_letters_6 7 rfl rfl)
theorem dX0_letters_148 : decode cX0_letters 148 = .ok (.ldc 10, 2) := dk_18 10 (dk_at dksX0_letters_6 9 rfl rfl)
theorem dX0_letters_150 : decode cX0_letters 150 = .ok (.isub, 1) := dk_100 (dk_at dksX0_letters_6 11 rfl rfl)
theorem dX0_letters_151 : decode cX0_letters 151 = .ok (.bipush 10, 2) := dk_16 10 (dk_at dksX0_letters_6 12 rfl rfl)
theorem dX0_letters_153 : decode cX0_letters 153 = .ok (.ishr, 1) := dk_122 (dk_at dksX0_letters_6 14 rfl rfl)
theorem dX0_letters_154 : decode cX0_letters 154 = .ok (.iadd, 1) := dk_96 (dk_at dksX0_letters_6 15 rfl rfl)
theorem dX0_letters_155 : decode cX0_letters 155 = .ok (.if_icmp .ne 26, 3) := dk_160 0 26 (dk_at dksX0_letters_6 16 rfl rfl)
theorem dX0_letters_158 : decode cX0_letters 158 = .ok (.aload_n 1, 1) := dk_43 (dk_at dksX0_letters_6 19 rfl rfl)
theorem dX0_letters_159 : decode cX0_letters 159 = .ok (.iload 4, 2) := dk_21 4 (dk_at dksX0_letters_6 20 rfl rfl)
theorem dX0_letters_161 : decode cX0_letters 161 = .ok (.iconst 1, 1) := dk_4 (dk_at dksX0_letters_6 22 rfl rfl)
theorem dX0_letters_162 : decode cX0_letters 162 = .ok (.iadd, 1) := dk_96 (dk_at dksX0_letters_6 23 rfl rfl)
theorem dX0_letters_163 : decode cX0_letters 163 = .ok (.invokevirtual 37, 3) := dk_182 0 37 (dk_at dksX0_letters_7 0 rfl rfl)
theorem dX0_letters_166 : decode cX0_letters 166 = .ok (.ldc 11, 2) := dk_18 11 (dk_at dksX0_letters_7 3 rfl rfl)
theorem dX0_letters_168 : decode cX0_letters 168 = .ok (.iload 6, 2) := dk_21 6 (dk_at dksX0_letters_7 5 rfl rfl)
theorem dX0_letters_170 : decode cX0_letters 170 = .ok (.ldc 10, 2) := dk_18 10 (dk_at dksX0_letters_7 7 rfl rfl)
theorem dX0_letters_172 : decode cX0_letters 172 = .ok (.isub, 1) := dk_100 (dk_at dksX0_letters_7 9 rfl rfl)
theorem dX0_letters_173 : decode cX0_letters 173 = .ok (.sipush 1023, 3) := dk_17 3 255 (dk_at dksX0_letters_7 10 rfl rfl)
theorem dX0_letters_176 : decode cX0_letters 176 = .ok (.iand, 1) := dk_126 (dk_at dksX0_letters_7 13 rfl rfl)
theorem dX0_letters_177 : decode cX0_letters 177 = .ok (.iadd, 1) := dk_96 (dk_at dksX0_letters_7 14 rfl rfl)
theorem dX0_letters_178 : decode cX0_letters 178 = .ok (.if_icmp .eq 5, 3) := dk_159 0 5 (dk_at dksX0_letters_7 15 rfl rfl)
theorem dX0_letters_181 : decode cX0_letters 181 = .ok (.iconst 0, 1) := dk_3 (dk_at dksX0_letters_7 18 rfl rfl)
theorem dX0_letters_182 : decode cX0_letters 182 = .ok (.ireturn, 1) := dk_172 (dk_at dksX0_letters_7 19 rfl rfl)
theorem dX0_letters_183 : decode cX0_letters 183 = .ok (.iinc 4 2, 3) := dk_132 4 2 (dk_at dksX0_letters_7 20 rfl rfl)
theorem dX0_letters_186 : decode cX0_letters 186 = .ok (.iinc 5 1, 3) := dk_132 5 1 (dk_at dksX0_letters_8 0 rfl rfl)
theorem dX0_letters_189 : decode cX0_letters 189 = .ok (.goto (-92), 3) := dk_167 255 164 (dk_at dksX0_letters_8 3 rfl rfl)
theorem dX0_letters_192 : decode cX0_letters 192 = .ok (.iload_n 2, 1) := dk_28 (dk_at dksX0_letters_8 6 rfl rfl)
theorem dX0_letters_193 : decode cX0_letters 193 = .ok (.iconst 2, 1) := dk_5 (dk_at dksX0_letters_8 7 rfl rfl)
theorem dX0_letters_194 : decode cX0_letters 194 = .ok (.if_icmp .ge 5, 3) := dk_162 0 5 (dk_at dksX0_letters_8 8 rfl rfl)
theorem dX0_letters_197 : decode cX0_letters 197 = .ok (.iconst 1, 1) := dk_4 (dk_at dksX0_letters_8 11 rfl rfl)
theorem dX0_letters_198 : decode cX0_letters 198 = .ok (.ireturn, 1) := dk_172 (dk_at dksX0_letters_8 12 rfl rfl)
theorem dX0_letters_199 : decode cX0_letters 199 = .ok (.aload_n 0, 1) := dk_42 (dk_at dksX0_letters_8 13 rfl rfl)
theorem dX0_letters_200 : decode cX0_letters 200 = .ok (.iconst 0, 1) := dk_3 (dk_at dksX0_letters_8 14 rfl rfl)
theorem dX0_letters_201 : decode cX0_letters 201 = .ok (.iaload, 1) := dk_46 (dk_at dksX0_letters_8 15 rfl rfl)
theorem dX0_letters_202 : decode cX0_letters 202 = .ok (.invokestatic 67, 3) := dk_184 0 67 (dk_at dksX0_letters_8 16 rfl rfl)
theorem dX0_letters_205 : decode cX0_letters 205 = .ok (.istore 5, 2) := dk_54 5 (dk_at dksX0_letters_8 19 rfl rfl)
theorem dX0_letters_207 : decode cX0_letters 207 = .ok (.iload 5, 2) := dk_21 5 (dk_at dksX0_letters_8 21 rfl rfl)
theorem dX0_letters_209 : decode cX0_letters 209 = .ok (.sipush 128, 3) := dk_17 0 128 (dk_at dksX0_letters_9 0 rfl rfl)
theorem dX0_letters_212 : decode cX0_letters 212 = .ok (.if_icmp .ge 7, 3) := dk_162 0 7 (dk_at dksX0_letters_9 3 rfl rfl)
theorem dX0_letters_215 : decode cX0_letters 215 = .ok (.iconst 1, 1) := dk_4 (dk_at dksX0_letters_9 6 rfl rfl)
theorem dX0_letters_216 : decode cX0_letters 216 = .ok (.goto 27, 3) := dk_167 0 27 (dk_at dksX0_letters_9 7 rfl rfl)
theorem dX0_letters_219 : decode cX0_letters 219 = .ok (.iload 5, 2) := dk_21 5 (dk_at dksX0_letters_9 10 rfl rfl)
theorem dX0_letters_221 : decode cX0_letters 221 = .ok (.sipush 2048, 3) := dk_17 8 0 (dk_at dksX0_letters_9 12 rfl rfl)
theorem dX0_letters_224 : decode cX0_letters 224 = .ok (.if_icmp .ge 7, 3) := dk_162 0 7 (dk_at dksX0_letters_9 15 rfl rfl)
theorem dX0_letters_227 : decode cX0_letters 227 = .ok (.iconst 2, 1) := dk_5 (dk_at dksX0_letters_9 18 rfl rfl)
theorem dX0_letters_228 : decode cX0_letters 228 = .ok (.goto 15, 3) := dk_167 0 15 (dk_at dksX0_letters_9 19 rfl rfl)
theorem dX0_letters_231 : decode cX0_letters 231 = .ok (.iload 5, 2) := dk_21 5 (dk_at dksX0_letters_9 22 rfl rfl)
theorem dX0_letters_233 : decode cX0_letters 233 = .ok (.ldc 10, 2) := dk_18 10 (dk_at dksX0_letters_10 0 rfl rfl)
theorem dX0_letters_235 : decode cX0_letters 235 = .ok (.if_icmp .ge 7, 3) := dk_162 0 7 (dk_at dksX0_letters_10 2 rfl rfl)
theorem dX0_letters_238 : decode cX0_letters 238 = .ok (.iconst 3, 1) := dk_6 (dk_at dksX0_letters_10 5 rfl rfl)
theorem dX0_letters_239 : decode cX0_letters 239 = .ok (.goto 4, 3) := dk_167 0 4 (dk_at dksX0_letters_10 6 rfl rfl)
theorem dX0_letters_242 : decode cX0_letters 242 = .ok (.iconst 4, 1) := dk_7 (dk_at dksX0_letters_10 9 rfl rfl)
theorem dX0_letters_243 : decode cX0_letters 243 = .ok (.istore 6, 2) := dk_54 6 (dk_at dksX0_letters_10 10 rfl rfl)
theorem dX0_letters_245 : decode cX0_letters 245 = .ok (.iload 5, 2) := dk_21 5 (dk_at dksX0_letters_10 12 rfl rfl)
theorem dX0_letters_247 : decode cX0_letters 247 = .ok (.ldc 50, 2) := dk_18 50 (dk_at dksX0_letters_10 14 rfl rfl)
theorem dX0_letters_249 : decode cX0_letters 249 = .ok (.if_icmp .le 7, 3) := dk_164 0 7 (dk_at dksX0_letters_10 16 rfl rfl)
theorem dX0_letters_252 : decode cX0_letters 252 = .ok (.iconst 2, 1) := dk_5 (dk_at dksX0_letters_10 19 rfl rfl)
theorem dX0_letters_253 : decode cX0_letters 253 = .ok (.goto 4, 3) := dk_167 0 4 (dk_at dksX0_letters_10 20 rfl rfl)
theorem dX0_letters_256 : decode cX0_letters 256 = .ok (.iconst 1, 1) := dk_4 (dk_at dksX0_letters_10 23 rfl rfl)
theorem dX0_letters_257 : decode cX0_letters 257 = .ok (.istore 7, 2) := dk_54 7 (dk_at dksX0_letters_11 0 rfl rfl)
theorem dX0_letters_259 : decode cX0_letters 259 = .ok (.aload_n 1, 1) := dk_43 (dk_at dksX0_letters_11 2 rfl rfl)
theorem dX0_letters_260 : decode cX0_letters 260 = .ok (.iload 6, 2) := dk_21 6 (dk_at dksX0_letters_11 3 rfl rfl)
theorem dX0_letters_262 : decode cX0_letters 262 = .ok (.aload_n 1, 1) := dk_43 (dk_at dksX0_letters_11 5 rfl rfl)
theorem dX0_letters_263 : decode cX0_letters 263 = .ok (.invokevirtual 44, 3) := dk_182 0 44 (dk_at dksX0_letters_11 6 rfl rfl)
theorem dX0_letters_266 : decode cX0_letters 266 = .ok (.iload 6, 2) := dk_21 6 (dk_at dksX0_letters_11 9 rfl rfl)
theorem dX0_letters_268 : decode cX0_letters 268 = .ok (.isub, 1) := dk_100 (dk_at dksX0_letters_11 11 rfl rfl)
theorem dX0_letters_269 : decode cX0_letters 269 = .ok (.invokevirtual 33, 3) := dk_182 0 33 (dk_at dksX0_letters_11 12 rfl rfl)
theorem dX0_letters_272 : decode cX0_letters 272 = .ok (.iload_n 3, 1) := dk_29 (dk_at dksX0_letters_11 15 rfl rfl)
theorem dX0_letters_273 : decode cX0_letters 273 = .ok (.iload 7, 2) := dk_21 7 (dk_at dksX0_letters_11 16 rfl rfl)
theorem dX0_letters_275 : decode cX0_letters 275 = .ok (.isub, 1) := dk_100 (dk_at dksX0_letters_11 18 rfl rfl)
theorem dX0_letters_276 : decode cX0_letters 276 = .ok (.if_icmp .eq 5, 3) := dk_159 0 5 (dk_at dksX0_letters_11 19 rfl rfl)
theorem dX0_letters_279 : decode cX0_letters 279 = .ok (.iconst 0, 1) := dk_3 (dk_at dksX0_letters_11 22 rfl rfl)
theorem dX0_letters_280 : decode cX0_letters 280 = .ok (.ireturn, 1) := dk_172 (dk_at dksX0_letters_11 23 rfl rfl)
theorem dX0_letters_281 : decode cX0_letters 281 = .ok (.iconst 0, 1) := dk_3 (dk_at dksX0_letters_12 0 rfl rfl)
theorem dX0_letters_282 : decode cX0_letters 282 = .ok (.istore 4, 2) := dk_54 4 (dk_at dksX0_letters_12 1 rfl rfl)
theorem dX0_letters_284 : decode cX0_letters 284 = .ok (.iconst 1, 1) := dk_4 (dk_at dksX0_letters_12 3 rfl rfl)
theorem dX0_letters_285 : decode cX0_letters 285 = .ok (.istore 8, 2) := dk_54 8 (dk_at dksX0_letters_12 4 rfl rfl)
theorem dX0_letters_287 : decode cX0_letters 287 = .ok (.iload 8, 2) := dk_21 8 (dk_at dksX0_letters_12 6 rfl rfl)
theorem dX0_letters_289 : decode cX0_letters 289 = .ok (.iload_n 2, 1) := dk_28 (dk_at dksX0_letters_12 8 rfl rfl)
theorem dX0_letters_290 : decode cX0_letters 290 = .ok (.if_icmp .ge 99, 3) := dk_162 0 99 (dk_at dksX0_letters_12 9 rfl rfl)
theorem dX0_letters_293 : decode cX0_letters 293 = .ok (.aload_n 0, 1) := dk_42 (dk_at dksX0_letters_12 12 rfl rfl)
theorem dX0_letters_294 : decode cX0_letters 294 = .ok (.iload 8, 2) := dk_21 8 (dk_at dksX0_letters_12 13 rfl rfl)
theorem dX0_letters_296 : decode cX0_letters 296 = .ok (.iaload, 1) := dk_46 (dk_at dksX0_letters_12 15 rfl rfl)
theorem dX0_letters_297 : decode cX0_letters 297 = .ok (.invokestatic 67, 3) := dk_184 0 67 (dk_at dksX0_letters_12 16 rfl rfl)
theorem dX0_letters_300 : decode cX0_letters 300 = .ok (.istore 5, 2) := dk_54 5 (dk_at dksX0_letters_12 19 rfl rfl)
theorem dX0_letters_302 : decode cX0_letters 302 = .ok (.aload_n 1, 1) := dk_43 (dk_at dksX0_letters_12 21 rfl rfl)
theorem dX0_letters_303 : decode cX0_letters 303 = .ok (.iload 4, 2) := dk_21 4 (dk_at dksX0_letters_12 22 rfl rfl)
theorem dX0_letters_305 : decode cX0_letters 305 = .ok (.invokevirtual 37, 3) := dk_182 0 37 (dk_at dksX0_letters_13 0 rfl rfl)
theorem dX0_letters_308 : decode cX0_letters 308 = .ok (.iload 5, 2) := dk_21 5 (dk_at dksX0_letters_13 3 rfl rfl)
theorem dX0_letters_310 : decode cX0_letters 310 = .ok (.ldc 10, 2) := dk_18 10 (dk_at dksX0_letters_13 5 rfl rfl)
theorem dX0_letters_312 : decode cX0_letters 312 = .ok (.if_icmp .ge 8, 3) := dk_162 0 8 (dk_at dksX0_letters_13 7 rfl rfl)
theorem dX0_letters_315 : decode cX0_letters 315 = .ok (.iload 5, 2) := dk_21 5 (dk_at dksX0_letters_13 10 rfl rfl)
theorem dX0_letters_317 : decode cX0_letters 317 = .ok (.goto 14, 3) := dk_167 0 14 (dk_at dksX0_letters_13 12 rfl rfl)
theorem dX0_letters_320 : decode cX0_letters 320 = .ok (.ldc 9, 2) := dk_18 9 (dk_at dksX0_letters_13 15 rfl rfl)
theorem dX0_letters_322 : decode cX0_letters 322 = .ok (.iload 5, 2) := dk_21 5 (dk_at dksX0_letters_13 17 rfl rfl)
theorem dX0_letters_324 : decode cX0_letters 324 = .ok (.ldc 10, 2) := dk_18 10 (dk_at dksX0_letters_13 19 rfl rfl)
theorem dX0_letters_326 : decode cX0_letters 326 = .ok (.isub, 1) := dk_100 (dk_at dksX0_letters_13 21 rfl rfl)
theorem dX0_letters_327 : decode cX0_letters 327 = .ok (.bipush 10, 2) := dk_16 10 (dk_at dksX0_letters_13 22 rfl rfl)
theorem dX0_letters_329 : decode cX0_letters 329 = .ok (.ishr, 1) := dk_122 (dk_at dksX0_letters_14 0 rfl rfl)
theorem dX0_letters_330 : decode cX0_letters 330 = .ok (.iadd, 1) := dk_96 (dk_at dksX0_letters_14 1 rfl rfl)
theorem dX0_letters_331 : decode cX0_letters 331 = .ok (.if_icmp .ne 33, 3) := dk_160 0 33 (dk_at dksX0_letters_14 2 rfl rfl)
theorem dX0_letters_334 : decode cX0_letters 334 = .ok (.iload 5, 2) := dk_21 5 (dk_at dksX0_letters_14 5 rfl rfl)
theorem dX0_letters_336 : decode cX0_letters 336 = .ok (.ldc 50, 2) := dk_18 50 (dk_at dksX0_letters_14 7 rfl rfl)
theorem dX0_letters_338 : decode cX0_letters 338 = .ok (.if_icmp .le 28, 3) := dk_164 0 28 (dk_at dksX0_letters_14 9 rfl rfl)
theorem dX0_letters_341 : decode cX0_letters 341 = .ok (.aload_n 1, 1) := dk_43 (dk_at dksX0_letters_14 12 rfl rfl)
theorem dX0_letters_342 : decode cX0_letters 342 = .ok (.iload 4, 2) := dk_21 4 (dk_at dksX0_letters_14 13 rfl rfl)
theorem dX0_letters_344 : decode cX0_letters 344 = .ok (.iconst 1, 1) := dk_4 (dk_at dksX0_letters_14 15 rfl rfl)
theorem dX0_letters_345 : decode cX0_letters 345 = .ok (.iadd, 1) := dk_96 (dk_at dksX0_letters_14 16 rfl rfl)
theorem dX0_letters_346 : decode cX0_letters 346 = .ok (.invokevirtual 37, 3) := dk_182 0 37 (dk_at dksX0_letters_14 17 rfl rfl)
theorem dX0_letters_349 : decode cX0_letters 349 = .ok (.ldc 11, 2) := dk_18 11 (dk_at dksX0_letters_14 20 rfl rfl)
theorem dX0_letters_351 : decode cX0_letters 351 = .ok (.iload 5, 2) := dk_21 5 (dk_at dksX0_letters_14 22 rfl rfl)
theorem dX0_letters_353 : decode cX0_letters 353 = .ok (.ldc 10, 2) := dk_18 10 (dk_at dksX0_letters_15 0 rfl rfl)
theorem dX0_letters_355 : decode cX0_letters 355 = .ok (.isub, 1) := dk_100 (dk_at dksX0_letters_15 2 rfl rfl)
theorem dX0_letters_356 : decode cX0_letters 356 = .ok (.sipush 1023, 3) := dk_17 3 255 (dk_at dksX0_letters_15 3 rfl rfl)
theorem dX0_letters_359 : decode cX0_letters 359 = .ok (.iand, 1) := dk_126 (dk_at dksX0_letters_15 6 rfl rfl)
theorem dX0_letters_360 : decode cX0_letters 360 = .ok (.iadd, 1) := dk_96 (dk_at dksX0_letters_15 7 rfl rfl)
theorem dX0_letters_361 : decode cX0_letters 361 = .ok (.if_icmp .eq 5, 3) := dk_159 0 5 (dk_at dksX0_letters_15 8 rfl rfl)
theorem dX0_letters_364 : decode cX0_letters 364 = .ok (.iconst 0, 1) := dk_3 (dk_at dksX0_letters_15 11 rfl rfl)
theorem dX0_letters_365 : decode cX0_letters 365 = .ok (.ireturn, 1) := dk_172 (dk_at dksX0_letters_15 12 rfl rfl)
theorem dX0_letters_366 : decode cX0_letters 366 = .ok (.iload 4, 2) := dk_21 4 (dk_at dksX0_letters_15 13 rfl rfl)
theorem dX0_letters_368 : decode cX0_letters 368 = .ok (.iload 5, 2) := dk_21 5 (dk_at dksX0_letters_15 15 rfl rfl)
theorem dX0_letters_370 : decode cX0_letters 370 = .ok (.ldc 50, 2) := dk_18 50 (dk_at dksX0_letters_15 17 rfl rfl)
theorem dX0_letters_372 : decode cX0_letters 372 = .ok (.if_icmp .le 7, 3) := dk_164 0 7 (dk_at dksX0_letters_15 19 rfl rfl)
theorem dX0_letters_375 : decode cX0_letters 375 = .ok (.iconst 2, 1) := dk_5 (dk_at dksX0_letters_15 22 rfl rfl)
theorem dX0_letters_376 : decode cX0_letters 376 = .ok (.goto 4, 3) := dk_167 0 4 (dk_at dksX0_letters_16 0 rfl rfl)
theorem dX0_letters_379 : decode cX0_letters 379 = .ok (.iconst 1, 1) := dk_4 (dk_at dksX0_letters_16 3 rfl rfl)
theorem dX0_letters_380 : decode cX0_letters 380 = .ok (.iadd, 1) := dk_96 (dk_at dksX0_letters_16 4 rfl rfl)
theorem dX0_letters_381 : decode cX0_letters 381 = .ok (.istore 4, 2) := dk_54 4 (dk_at dksX0_letters_16 5 rfl rfl)
theorem dX0_letters_383 : decode cX0_letters 383 = .ok (.iinc 8 1, 3) := dk_132 8 1 (dk_at dksX0_letters_16 7 rfl rfl)
theorem dX0_letters_386 : decode cX0_letters 386 = .ok (.goto (-99), 3) := dk_167 255 157 (dk_at dksX0_letters_16 10 rfl rfl)
theorem dX0_letters_389 : decode cX0_letters 389 = .ok (.iconst 1, 1) := dk_4 (dk_at dksX0_letters_16 13 rfl rfl)
theorem dX0_letters_390 : decode cX0_letters 390 = .ok (.ireturn, 1) := dk_172 (dk_at dksX0_letters_16 14 rfl rfl)
abbrev cX0_point : ByteArray := method_3_code
def yX0_point : MethodName := ⟨RX0, "point", "(I)I"⟩
def dkwX0_point_0 : List UInt8 := [26, 18, 7, 126, 18, 8, 112, 60, 27, 18, 9, 162, 0, 7, 27, 167, 0, 8, 27, 17, 8, 0, 96, 172]
abbrev dktX0_point_0 : List UInt8 := dkwX0_point_0 ++ []
theorem dksX0_point_0 : cX0_point.data.toList.drop 0 = dktX0_point_0 := by decide +kernel
theorem dX0_point_0 : decode cX0_point 0 = .ok (.iload_n 0, 1) := dk_26 (dk_at dksX0_point_0 0 rfl rfl)
theorem dX0_point_1 : decode cX0_point 1 = .ok (.ldc 7, 2) := dk_18 7 (dk_at dksX0_point_0 1 rfl rfl)
theorem dX0_point_3 : decode cX0_point 3 = .ok (.iand, 1) := dk_126 (dk_at dksX0_point_0 3 rfl rfl)
theorem dX0_point_4 : decode cX0_point 4 = .ok (.ldc 8, 2) := dk_18 8 (dk_at dksX0_point_0 4 rfl rfl)
theorem dX0_point_6 : decode cX0_point 6 = .ok (.irem, 1) := dk_112 (dk_at dksX0_point_0 6 rfl rfl)
theorem dX0_point_7 : decode cX0_point 7 = .ok (.istore_n 1, 1) := dk_60 (dk_at dksX0_point_0 7 rfl rfl)
theorem dX0_point_8 : decode cX0_point 8 = .ok (.iload_n 1, 1) := dk_27 (dk_at dksX0_point_0 8 rfl rfl)
theorem dX0_point_9 : decode cX0_point 9 = .ok (.ldc 9, 2) := dk_18 9 (dk_at dksX0_point_0 9 rfl rfl)
theorem dX0_point_11 : decode cX0_point 11 = .ok (.if_icmp .ge 7, 3) := dk_162 0 7 (dk_at dksX0_point_0 11 rfl rfl)
theorem dX0_point_14 : decode cX0_point 14 = .ok (.iload_n 1, 1) := dk_27 (dk_at dksX0_point_0 14 rfl rfl)
theorem dX0_point_15 : decode cX0_point 15 = .ok (.goto 8, 3) := dk_167 0 8 (dk_at dksX0_point_0 15 rfl rfl)
theorem dX0_point_18 : decode cX0_point 18 = .ok (.iload_n 1, 1) := dk_27 (dk_at dksX0_point_0 18 rfl rfl)
theorem dX0_point_19 : decode cX0_point 19 = .ok (.sipush 2048, 3) := dk_17 8 0 (dk_at dksX0_point_0 19 rfl rfl)
theorem dX0_point_22 : decode cX0_point 22 = .ok (.iadd, 1) := dk_96 (dk_at dksX0_point_0 22 rfl rfl)
theorem dX0_point_23 : decode cX0_point 23 = .ok (.ireturn, 1) := dk_172 (dk_at dksX0_point_0 23 rfl rfl)
theorem q0 : (Jvm.Cond.initialized "WireLettersLaw") ∈ lw_all := lw_g (lw_at lw_m0 0 rfl) rfl
theorem q3 : (Jvm.Cond.methodLink "WireLettersLaw" (61 : Nat) ({ cls := "WireLettersLaw", name := "anyBytes", desc := "([I)Z" } : Jvm.MethodName)) ∈ lw_all := lw_g (lw_at lw_m0 3 rfl) rfl
theorem q4 : (Jvm.Cond.static ({ cls := "WireLettersLaw", name := "anyBytes", desc := "([I)Z" } : Jvm.MethodName)) ∈ lw_all := lw_g (lw_at lw_m0 4 rfl) rfl
theorem q5 : (Jvm.Cond.code ({ cls := "WireLettersLaw", name := "anyBytes", desc := "([I)Z" } : Jvm.MethodName) method_5_code (9 : Nat) (Option.some Jvm.ClassFile.FieldType.boolean)) ∈ lw_all := lw_g (lw_at lw_m0 5 rfl) rfl
theorem q6 : (Jvm.Cond.classLink "WireLettersLaw" (12 : Nat) "WireLetters") ∈ lw_all := lw_g (lw_at lw_m0 6 rfl) rfl
theorem q8 : (Jvm.Cond.methodLink "WireLettersLaw" (14 : Nat) ({ cls := "WireLetters", name := "<init>", desc := "()V" } : Jvm.MethodName)) ∈ lw_all := lw_g (lw_at lw_m0 8 rfl) rfl
theorem q30 : (Jvm.Cond.methodLink "WireLettersLaw" (15 : Nat) ({ cls := "WireLetters", name := "lay", desc := "(I)I" } : Jvm.MethodName)) ∈ lw_all := lw_g (lw_at lw_m0 30 rfl) rfl
theorem q36 : (Jvm.Cond.methodLink "WireLettersLaw" (19 : Nat) ({ cls := "WireLettersLaw", name := "cell", desc := "([II)I" } : Jvm.MethodName)) ∈ lw_all := lw_g (lw_at lw_m0 36 rfl) rfl
theorem q37 : (Jvm.Cond.static ({ cls := "WireLettersLaw", name := "cell", desc := "([II)I" } : Jvm.MethodName)) ∈ lw_all := lw_g (lw_at lw_m0 37 rfl) rfl
theorem q38 : (Jvm.Cond.code ({ cls := "WireLettersLaw", name := "cell", desc := "([II)I" } : Jvm.MethodName) method_2_code (2 : Nat) (Option.some Jvm.ClassFile.FieldType.int)) ∈ lw_all := lw_g (lw_at lw_m0 38 rfl) rfl
theorem q39 : (Jvm.Cond.methodLink "WireLettersLaw" (25 : Nat) ({ cls := "WireLetters", name := "spoil", desc := "(II)V" } : Jvm.MethodName)) ∈ lw_all := lw_g (lw_at lw_m0 39 rfl) rfl
theorem q44 : (Jvm.Cond.methodLink "WireLettersLaw" (29 : Nat) ({ cls := "WireLettersLaw", name := "units", desc := "([III[I)I" } : Jvm.MethodName)) ∈ lw_all := lw_g (lw_at lw_m0 44 rfl) rfl
theorem q45 : (Jvm.Cond.static ({ cls := "WireLettersLaw", name := "units", desc := "([III[I)I" } : Jvm.MethodName)) ∈ lw_all := lw_g (lw_at lw_m0 45 rfl) rfl
theorem q46 : (Jvm.Cond.code ({ cls := "WireLettersLaw", name := "units", desc := "([III[I)I" } : Jvm.MethodName) method_4_code (13 : Nat) (Option.some Jvm.ClassFile.FieldType.int)) ∈ lw_all := lw_g (lw_at lw_m0 46 rfl) rfl
theorem q47 : (Jvm.Cond.constant "WireLettersLaw" (10 : Nat) (65536 : Int32)) ∈ lw_all := lw_g (lw_at lw_m0 47 rfl) rfl
theorem q48 : (Jvm.Cond.constant "WireLettersLaw" (9 : Nat) (55296 : Int32)) ∈ lw_all := lw_g (lw_at lw_m0 48 rfl) rfl
theorem q49 : (Jvm.Cond.constant "WireLettersLaw" (11 : Nat) (56320 : Int32)) ∈ lw_all := lw_g (lw_at lw_m0 49 rfl) rfl
theorem q50 : (Jvm.Cond.methodLink "WireLettersLaw" (33 : Nat) ({ cls := "WireLetters", name := "read", desc := "(II)I" } : Jvm.MethodName)) ∈ lw_all := lw_g (lw_at lw_m0 50 rfl) rfl
theorem q64 : (Jvm.Cond.methodLink "WireLettersLaw" (37 : Nat) ({ cls := "WireLetters", name := "letter", desc := "(I)I" } : Jvm.MethodName)) ∈ lw_all := lw_g (lw_at lw_m0 64 rfl) rfl
theorem q68 : (Jvm.Cond.methodLink "WireLettersLaw" (64 : Nat) ({ cls := "WireLettersLaw", name := "noLetters", desc := "([I)Z" } : Jvm.MethodName)) ∈ lw_all := lw_g (lw_at lw_m0 68 rfl) rfl
theorem q69 : (Jvm.Cond.static ({ cls := "WireLettersLaw", name := "noLetters", desc := "([I)Z" } : Jvm.MethodName)) ∈ lw_all := lw_g (lw_at lw_m0 69 rfl) rfl
theorem q70 : (Jvm.Cond.code ({ cls := "WireLettersLaw", name := "noLetters", desc := "([I)Z" } : Jvm.MethodName) method_6_code (9 : Nat) (Option.some Jvm.ClassFile.FieldType.boolean)) ∈ lw_all := lw_g (lw_at lw_m0 70 rfl) rfl
theorem q71 : (Jvm.Cond.constant "WireLettersLaw" (40 : Nat) (57343 : Int32)) ∈ lw_all := lw_g (lw_at lw_m0 71 rfl) rfl
theorem q72 : (Jvm.Cond.constant "WireLettersLaw" (41 : Nat) (1114112 : Int32)) ∈ lw_all := lw_g (lw_at lw_m0 72 rfl) rfl
theorem q73 : (Jvm.Cond.constant "WireLettersLaw" (42 : Nat) (2097151 : Int32)) ∈ lw_all := lw_g (lw_at lw_m0 73 rfl) rfl
theorem q74 : (Jvm.Cond.constant "WireLettersLaw" (7 : Nat) (2147483647 : Int32)) ∈ lw_all := lw_g (lw_at lw_m0 74 rfl) rfl
theorem q75 : (Jvm.Cond.constant "WireLettersLaw" (43 : Nat) (983040 : Int32)) ∈ lw_all := lw_g (lw_at lw_m0 75 rfl) rfl
theorem q76 : (Jvm.Cond.methodLink "WireLettersLaw" (44 : Nat) ({ cls := "WireLetters", name := "size", desc := "()I" } : Jvm.MethodName)) ∈ lw_all := lw_g (lw_at lw_m0 76 rfl) rfl
theorem q80 : (Jvm.Cond.constant "WireLettersLaw" (48 : Nat) (55295 : Int32)) ∈ lw_all := lw_g (lw_at lw_m0 80 rfl) rfl
theorem q81 : (Jvm.Cond.constant "WireLettersLaw" (49 : Nat) (57344 : Int32)) ∈ lw_all := lw_g (lw_at lw_m0 81 rfl) rfl
theorem q82 : (Jvm.Cond.constant "WireLettersLaw" (50 : Nat) (65535 : Int32)) ∈ lw_all := lw_g (lw_at lw_m0 82 rfl) rfl
theorem q83 : (Jvm.Cond.constant "WireLettersLaw" (51 : Nat) (1114111 : Int32)) ∈ lw_all := lw_g (lw_at lw_m0 83 rfl) rfl
theorem q84 : (Jvm.Cond.constant "WireLettersLaw" (52 : Nat) (-2097152 : Int32)) ∈ lw_all := lw_g (lw_at lw_m0 84 rfl) rfl
theorem q85 : (Jvm.Cond.methodLink "WireLettersLaw" (53 : Nat) ({ cls := "WireLetters", name := "cut", desc := "(I)V" } : Jvm.MethodName)) ∈ lw_all := lw_g (lw_at lw_m0 85 rfl) rfl
theorem q89 : (Jvm.Cond.methodLink "WireLettersLaw" (57 : Nat) ({ cls := "WireLettersLaw", name := "letters", desc := "([I)Z" } : Jvm.MethodName)) ∈ lw_all := lw_g (lw_at lw_m0 89 rfl) rfl
theorem q90 : (Jvm.Cond.static ({ cls := "WireLettersLaw", name := "letters", desc := "([I)Z" } : Jvm.MethodName)) ∈ lw_all := lw_g (lw_at lw_m0 90 rfl) rfl
theorem q91 : (Jvm.Cond.code ({ cls := "WireLettersLaw", name := "letters", desc := "([I)Z" } : Jvm.MethodName) method_8_code (9 : Nat) (Option.some Jvm.ClassFile.FieldType.boolean)) ∈ lw_all := lw_g (lw_at lw_m0 91 rfl) rfl
theorem q92 : (Jvm.Cond.methodLink "WireLettersLaw" (67 : Nat) ({ cls := "WireLettersLaw", name := "point", desc := "(I)I" } : Jvm.MethodName)) ∈ lw_all := lw_g (lw_at lw_m0 92 rfl) rfl
theorem q93 : (Jvm.Cond.static ({ cls := "WireLettersLaw", name := "point", desc := "(I)I" } : Jvm.MethodName)) ∈ lw_all := lw_g (lw_at lw_m0 93 rfl) rfl
theorem q94 : (Jvm.Cond.code ({ cls := "WireLettersLaw", name := "point", desc := "(I)I" } : Jvm.MethodName) method_3_code (2 : Nat) (Option.some Jvm.ClassFile.FieldType.int)) ∈ lw_all := lw_g (lw_at lw_m0 94 rfl) rfl
theorem q95 : (Jvm.Cond.constant "WireLettersLaw" (8 : Nat) (1112064 : Int32)) ∈ lw_all := lw_g (lw_at lw_m0 95 rfl) rfl
/-! the law's own entry -/
set_option maxRecDepth 100000
abbrev cL_law : ByteArray := code
def dkwL_law_1 : List UInt8 := [167, 0, 4, 3, 172]
abbrev dktL_law_1 : List UInt8 := dkwL_law_1 ++ []
def dkwL_law_0 : List UInt8 := [42, 184, 0, 57, 153, 0, 21, 42, 184, 0, 61, 153, 0, 14, 42, 184, 0, 64, 153, 0, 7, 4]
abbrev dktL_law_0 : List UInt8 := dkwL_law_0 ++ dktL_law_1
theorem dksL_law_0 : cL_law.data.toList.drop 0 = dktL_law_0 := by decide +kernel
theorem dksL_law_1 : cL_law.data.toList.drop 22 = dktL_law_1 := dk_seg dksL_law_0 22 rfl rfl
theorem dL_law_0 : decode cL_law 0 = .ok (.aload_n 0, 1) := dk_42 (dk_at dksL_law_0 0 rfl rfl)
theorem dL_law_1 : decode cL_law 1 = .ok (.invokestatic 57, 3) := dk_184 0 57 (dk_at dksL_law_0 1 rfl rfl)
theorem dL_law_4 : decode cL_law 4 = .ok (.ifCond .eq 21, 3) := dk_153 0 21 (dk_at dksL_law_0 4 rfl rfl)
theorem dL_law_7 : decode cL_law 7 = .ok (.aload_n 0, 1) := dk_42 (dk_at dksL_law_0 7 rfl rfl)
theorem dL_law_8 : decode cL_law 8 = .ok (.invokestatic 61, 3) := dk_184 0 61 (dk_at dksL_law_0 8 rfl rfl)
theorem dL_law_11 : decode cL_law 11 = .ok (.ifCond .eq 14, 3) := dk_153 0 14 (dk_at dksL_law_0 11 rfl rfl)
theorem dL_law_14 : decode cL_law 14 = .ok (.aload_n 0, 1) := dk_42 (dk_at dksL_law_0 14 rfl rfl)
theorem dL_law_15 : decode cL_law 15 = .ok (.invokestatic 64, 3) := dk_184 0 64 (dk_at dksL_law_0 15 rfl rfl)
theorem dL_law_18 : decode cL_law 18 = .ok (.ifCond .eq 7, 3) := dk_153 0 7 (dk_at dksL_law_0 18 rfl rfl)
theorem dL_law_21 : decode cL_law 21 = .ok (.iconst 1, 1) := dk_4 (dk_at dksL_law_0 21 rfl rfl)
theorem dL_law_22 : decode cL_law 22 = .ok (.goto 4, 3) := dk_167 0 4 (dk_at dksL_law_1 0 rfl rfl)
theorem dL_law_25 : decode cL_law 25 = .ok (.iconst 0, 1) := dk_3 (dk_at dksL_law_1 3 rfl rfl)
theorem dL_law_26 : decode cL_law 26 = .ok (.ireturn, 1) := dk_172 (dk_at dksL_law_1 4 rfl rfl)
end
section
/-! rows over numbers nI n, small pure rows -/
set_option maxRecDepth 100000
theorem n_tn {n : Nat} (h : n < 2 ^ 32) : (nI n).toBitVec.toNat = n := pk_tn h
theorem n_sl : ∀ n, n < 32 → ((nI n &&& 31).toBitVec.smod 32).toNat = n := by decide +kernel
theorem n_su : ∀ n, n < 32 → (((nI n).toUInt32 &&& Int32.toUInt32 31).toBitVec % 32).toNat = n := by decide +kernel
theorem n_or (a b : Nat) : nI a ||| nI b = nI (a ||| b) := by
  apply Int32.toBitVec_inj.1
  show BitVec.ofNat 32 a ||| BitVec.ofNat 32 b = BitVec.ofNat 32 (a ||| b)
  apply BitVec.eq_of_getLsbD_eq
  intro i hi
  simp [hi]
theorem n_orK {a b r : Nat} (k : Nat) (ha : a % 2 ^ k = 0) (hb : b < 2 ^ k) (hr : a + b = r) : a ||| b = r := by
  have h := Nat.two_pow_add_eq_or_of_lt hb (a / 2 ^ k)
  have e : 2 ^ k * (a / 2 ^ k) = a := by
    have := Nat.div_add_mod a (2 ^ k)
    omega
  rw [e] at h
  rw [← h, hr]
theorem n_m1_lt {n : Nat} (h : n < 2 ^ 31) : ¬ nI n = -1 := by
  intro q
  have h1 := nI_toInt h
  rw [q] at h1
  have h2 : (-1 : Int32).toInt = -1 := by decide +kernel
  omega
section GW
variable {p : Program} {l : Launch} {e : Env} {R : Room} {s : State} {m : MethodId} {args : Array Value} {below : List Frame} {meth : Method} {c : Code} {H : Heap} {locs : List Loc} {cells slots : Nat} {Q : State → Prop} {cc : ByteArray} {pc : Nat} {ls : Array Slot} {rest : List Value}
theorem n_top {x y : Int32} (h : x = y) (k : W p l e R s m args below meth c H locs cells slots Q (F0 m pc ls (.int y :: rest))) : W p l e R s m args below meth c H locs cells slots Q (F0 m pc ls (.int x :: rest)) := h ▸ k
theorem n_iadd {a b r : Nat} (hx : p.tables.exec = Jvm.exec) (hb : c.code = cc) (d : decode cc pc = .ok (.iadd, 1)) (hr : a + b = r) (k : W p l e R s m args below meth c H locs cells slots Q (F0 m (pc + 1) ls (.int (nI r) :: rest))) : W p l e R s m args below meth c H locs cells slots Q (F0 m pc ls (.int (nI b) :: .int (nI a) :: rest)) :=
  lv_iadd hx hb d (n_top (by rw [nI_add, hr]) k)
theorem n_isub {a b r : Nat} (hx : p.tables.exec = Jvm.exec) (hb : c.code = cc) (d : decode cc pc = .ok (.isub, 1)) (h : b ≤ a) (hr : a - b = r) (k : W p l e R s m args below meth c H locs cells slots Q (F0 m (pc + 1) ls (.int (nI r) :: rest))) : W p l e R s m args below meth c H locs cells slots Q (F0 m pc ls (.int (nI b) :: .int (nI a) :: rest)) :=
  lv_isub hx hb d (n_top (by rw [pk_sub h, hr]) k)
theorem n_imul {a b r : Nat} (hx : p.tables.exec = Jvm.exec) (hb : c.code = cc) (d : decode cc pc = .ok (.imul, 1)) (hr : a * b = r) (k : W p l e R s m args below meth c H locs cells slots Q (F0 m (pc + 1) ls (.int (nI r) :: rest))) : W p l e R s m args below meth c H locs cells slots Q (F0 m pc ls (.int (nI b) :: .int (nI a) :: rest)) :=
  lv_imul hx hb d (n_top (by rw [pk_mul, hr]) k)
theorem n_irem {a b r : Nat} (hx : p.tables.exec = Jvm.exec) (hb : c.code = cc) (d : decode cc pc = .ok (.irem, 1)) (ha : a < 2 ^ 31) (h0 : 0 < b) (hb2 : b < 2 ^ 31) (hr : a % b = r) (k : W p l e R s m args below meth c H locs cells slots Q (F0 m (pc + 1) ls (.int (nI r) :: rest))) : W p l e R s m args below meth c H locs cells slots Q (F0 m pc ls (.int (nI b) :: .int (nI a) :: rest)) :=
  lv_irem hx hb d (nI_ne0 h0 hb2) (n_top (by rw [pk_rem ha h0 hb2, hr]) k)
theorem n_ishr {a b r : Nat} (hx : p.tables.exec = Jvm.exec) (hb : c.code = cc) (d : decode cc pc = .ok (.ishr, 1)) (ha : a < 2 ^ 31) (hb2 : b < 32) (hr : a / 2 ^ b = r) (k : W p l e R s m args below meth c H locs cells slots Q (F0 m (pc + 1) ls (.int (nI r) :: rest))) : W p l e R s m args below meth c H locs cells slots Q (F0 m pc ls (.int (nI b) :: .int (nI a) :: rest)) :=
  lv_ishr hx hb d (n_top (by rw [pk_shrN ha _ b (n_sl b hb2), hr]) k)
theorem n_ishl {a b r : Nat} (hx : p.tables.exec = Jvm.exec) (hb : c.code = cc) (d : decode cc pc = .ok (.ishl, 1)) (hb2 : b < 32) (ha : a * 2 ^ b < 2 ^ 32) (hr : a * 2 ^ b = r) (k : W p l e R s m args below meth c H locs cells slots Q (F0 m (pc + 1) ls (.int (nI r) :: rest))) : W p l e R s m args below meth c H locs cells slots Q (F0 m pc ls (.int (nI b) :: .int (nI a) :: rest)) :=
  lv_ishl hx hb d (n_top (by rw [pk_shlN _ b (n_sl b hb2) ha, hr]) k)
theorem n_iushr {a b r : Nat} (hx : p.tables.exec = Jvm.exec) (hb : c.code = cc) (d : decode cc pc = .ok (.iushr, 1)) (ha : a < 2 ^ 32) (hb2 : b < 32) (hr : a / 2 ^ b = r) (k : W p l e R s m args below meth c H locs cells slots Q (F0 m (pc + 1) ls (.int (nI r) :: rest))) : W p l e R s m args below meth c H locs cells slots Q (F0 m pc ls (.int (nI b) :: .int (nI a) :: rest)) :=
  lv_iushr hx hb d (by rw [pk_ushrN ha _ b (n_su b hb2), hr]) k
theorem n_iand {x : Int32} {M r : Nat} (hx : p.tables.exec = Jvm.exec) (hb : c.code = cc) (d : decode cc pc = .ok (.iand, 1)) (j : Nat) (hM : (nI M).toBitVec.toNat = 2 ^ j - 1) (hr : x.toBitVec.toNat % 2 ^ j = r) (k : W p l e R s m args below meth c H locs cells slots Q (F0 m (pc + 1) ls (.int (nI r) :: rest))) : W p l e R s m args below meth c H locs cells slots Q (F0 m pc ls (.int (nI M) :: .int x :: rest)) :=
  lv_iand hx hb d (n_top (by rw [pk_and x j hM, hr]) k)
theorem n_iandN {a M r : Nat} (hx : p.tables.exec = Jvm.exec) (hb : c.code = cc) (d : decode cc pc = .ok (.iand, 1)) (j : Nat) (ha : a < 2 ^ 32) (hM : (nI M).toBitVec.toNat = 2 ^ j - 1) (hr : a % 2 ^ j = r) (k : W p l e R s m args below meth c H locs cells slots Q (F0 m (pc + 1) ls (.int (nI r) :: rest))) : W p l e R s m args below meth c H locs cells slots Q (F0 m pc ls (.int (nI M) :: .int (nI a) :: rest)) :=
  lv_iand hx hb d (n_top (by rw [pk_andN ha j hM, hr]) k)
theorem n_ior {a b r : Nat} (hx : p.tables.exec = Jvm.exec) (hb : c.code = cc) (d : decode cc pc = .ok (.ior, 1)) (hr : a ||| b = r) (k : W p l e R s m args below meth c H locs cells slots Q (F0 m (pc + 1) ls (.int (nI r) :: rest))) : W p l e R s m args below meth c H locs cells slots Q (F0 m pc ls (.int (nI b) :: .int (nI a) :: rest)) :=
  lv_ior hx hb d (n_top (by rw [n_or, hr]) k)
theorem n_i2c {a : Nat} (hx : p.tables.exec = Jvm.exec) (hb : c.code = cc) (d : decode cc pc = .ok (.i2c, 1)) (ha : a < 65536) (k : W p l e R s m args below meth c H locs cells slots Q (F0 m (pc + 1) ls (.int (nI a) :: rest))) : W p l e R s m args below meth c H locs cells slots Q (F0 m pc ls (.int (nI a) :: rest)) :=
  lv_i2c hx hb d (by rw [pk_char, pk_tn (by omega), Nat.mod_eq_of_lt ha]) k
theorem n_icmp_ge {a b : Nat} {off : Int} {tgt : Nat} (hx : p.tables.exec = Jvm.exec) (hb : c.code = cc) (d : decode cc pc = .ok (.if_icmp .ge off, 3)) (ht : (pc : Int) + off = (tgt : Int)) (h1 : a < 2 ^ 31) (h2 : b < 2 ^ 31) (kt : b ≤ a → W p l e R s m args below meth c H locs cells slots Q (F0 m tgt ls rest)) (kf : a < b → W p l e R s m args below meth c H locs cells slots Q (F0 m (pc + 3) ls rest)) : W p l e R s m args below meth c H locs cells slots Q (F0 m pc ls (.int (nI b) :: .int (nI a) :: rest)) :=
  lv_icmp_ge hx hb d ht (fun q => kt ((nI_leI h2 h1).1 q)) (fun q => kf (Nat.lt_of_not_le (fun z => q ((nI_leI h2 h1).2 z))))
theorem n_icmp_lt {a b : Nat} {off : Int} {tgt : Nat} (hx : p.tables.exec = Jvm.exec) (hb : c.code = cc) (d : decode cc pc = .ok (.if_icmp .lt off, 3)) (ht : (pc : Int) + off = (tgt : Int)) (h1 : a < 2 ^ 31) (h2 : b < 2 ^ 31) (kt : a < b → W p l e R s m args below meth c H locs cells slots Q (F0 m tgt ls rest)) (kf : b ≤ a → W p l e R s m args below meth c H locs cells slots Q (F0 m (pc + 3) ls rest)) : W p l e R s m args below meth c H locs cells slots Q (F0 m pc ls (.int (nI b) :: .int (nI a) :: rest)) :=
  lv_icmp_lt hx hb d ht (fun q => kt ((nI_ltI h1 h2).1 q)) (fun q => kf (Nat.le_of_not_lt (fun z => q ((nI_ltI h1 h2).2 z))))
theorem n_icmp_gt {a b : Nat} {off : Int} {tgt : Nat} (hx : p.tables.exec = Jvm.exec) (hb : c.code = cc) (d : decode cc pc = .ok (.if_icmp .gt off, 3)) (ht : (pc : Int) + off = (tgt : Int)) (h1 : a < 2 ^ 31) (h2 : b < 2 ^ 31) (kt : b < a → W p l e R s m args below meth c H locs cells slots Q (F0 m tgt ls rest)) (kf : a ≤ b → W p l e R s m args below meth c H locs cells slots Q (F0 m (pc + 3) ls rest)) : W p l e R s m args below meth c H locs cells slots Q (F0 m pc ls (.int (nI b) :: .int (nI a) :: rest)) :=
  lv_icmp_gt hx hb d ht (fun q => kt ((nI_ltI h2 h1).1 q)) (fun q => kf (Nat.le_of_not_lt (fun z => q ((nI_ltI h2 h1).2 z))))
theorem n_icmp_le {a b : Nat} {off : Int} {tgt : Nat} (hx : p.tables.exec = Jvm.exec) (hb : c.code = cc) (d : decode cc pc = .ok (.if_icmp .le off, 3)) (ht : (pc : Int) + off = (tgt : Int)) (h1 : a < 2 ^ 31) (h2 : b < 2 ^ 31) (kt : a ≤ b → W p l e R s m args below meth c H locs cells slots Q (F0 m tgt ls rest)) (kf : b < a → W p l e R s m args below meth c H locs cells slots Q (F0 m (pc + 3) ls rest)) : W p l e R s m args below meth c H locs cells slots Q (F0 m pc ls (.int (nI b) :: .int (nI a) :: rest)) :=
  lv_icmp_le hx hb d ht (fun q => kt ((nI_leI h1 h2).1 q)) (fun q => kf (Nat.lt_of_not_le (fun z => q ((nI_leI h1 h2).2 z))))
theorem n_icmp_eq {a b : Nat} {off : Int} {tgt : Nat} (hx : p.tables.exec = Jvm.exec) (hb : c.code = cc) (d : decode cc pc = .ok (.if_icmp .eq off, 3)) (ht : (pc : Int) + off = (tgt : Int)) (h1 : a < 2 ^ 31) (h2 : b < 2 ^ 31) (kt : a = b → W p l e R s m args below meth c H locs cells slots Q (F0 m tgt ls rest)) (kf : a ≠ b → W p l e R s m args below meth c H locs cells slots Q (F0 m (pc + 3) ls rest)) : W p l e R s m args below meth c H locs cells slots Q (F0 m pc ls (.int (nI b) :: .int (nI a) :: rest)) :=
  lv_icmp_eq hx hb d ht (fun q => kt ((nI_eq h1 h2).1 q)) (fun q => kf (fun z => q ((nI_eq h1 h2).2 z)))
theorem n_icmp_ne {a b : Nat} {off : Int} {tgt : Nat} (hx : p.tables.exec = Jvm.exec) (hb : c.code = cc) (d : decode cc pc = .ok (.if_icmp .ne off, 3)) (ht : (pc : Int) + off = (tgt : Int)) (h1 : a < 2 ^ 31) (h2 : b < 2 ^ 31) (kt : a ≠ b → W p l e R s m args below meth c H locs cells slots Q (F0 m tgt ls rest)) (kf : a = b → W p l e R s m args below meth c H locs cells slots Q (F0 m (pc + 3) ls rest)) : W p l e R s m args below meth c H locs cells slots Q (F0 m pc ls (.int (nI b) :: .int (nI a) :: rest)) :=
  lv_icmp_ne hx hb d ht (fun q => kt (fun z => q ((nI_eq h1 h2).2 z))) (fun q => kf ((nI_eq h1 h2).1 q))
/-- the two are known to be equal: the check passes -/
theorem n_eqT {x y : Int32} {off : Int} {tgt : Nat} (hx : p.tables.exec = Jvm.exec) (hb : c.code = cc) (d : decode cc pc = .ok (.if_icmp .eq off, 3)) (ht : (pc : Int) + off = (tgt : Int)) (h : x = y) (kt : W p l e R s m args below meth c H locs cells slots Q (F0 m tgt ls rest)) : W p l e R s m args below meth c H locs cells slots Q (F0 m pc ls (.int y :: .int x :: rest)) :=
  lv_icmp_eq hx hb d ht (fun _ => kt) (fun q => absurd h q)
theorem n_neF {x y : Int32} {off : Int} {tgt : Nat} (hx : p.tables.exec = Jvm.exec) (hb : c.code = cc) (d : decode cc pc = .ok (.if_icmp .ne off, 3)) (ht : (pc : Int) + off = (tgt : Int)) (h : x = y) (kf : W p l e R s m args below meth c H locs cells slots Q (F0 m (pc + 3) ls rest)) : W p l e R s m args below meth c H locs cells slots Q (F0 m pc ls (.int y :: .int x :: rest)) :=
  lv_icmp_ne hx hb d ht (fun q => absurd h q) (fun _ => kf)
end GW
end
section
/-! the pure law: UTF-8 by the standard's table 3-7, its UTF-16 units; the library's two tables -/
set_option maxRecDepth 100000
def tw_sx (k : Nat) : Int32 := (nI k).toInt8.toInt32
theorem tw_sx_tn : ∀ k, k < 256 → (tw_sx k).toBitVec.toNat % 256 = k := by decide +kernel
theorem tw_sx_lo : ∀ k, k < 128 → tw_sx k = nI k := by decide +kernel
theorem tw_sx_neg : ∀ k, k < 256 → 128 ≤ k → tw_sx k < 0 := by decide +kernel
def tw_up (b : Nat → Nat) (k v : Nat) : Nat → Nat := fun j => if j = k then v else b j
def tw_tx (b : Nat → Nat) : Nat → Int32 := fun j => tw_sx (b j)
theorem tw_tx_up (b : Nat → Nat) (k v : Nat) : upd (tw_tx b) k (vp_nar .byte (tw_sx v)) = tw_tx (tw_up b k v) := by
  funext j
  show (if j = k then vp_nar .byte (tw_sx v) else tw_sx (b j)) = tw_sx (if j = k then v else b j)
  by_cases h : j = k
  · rw [if_pos h, if_pos h]; exact pk_vb (nI v)
  · rw [if_neg h, if_neg h]
def tw_more (x : Nat) : Nat := if x < 128 then 0 else if x < 194 then 9 else if x < 224 then 1 else if x < 240 then 2 else if x < 245 then 3 else 9
def tw_lo (x : Nat) : Nat := if x = 224 then 160 else if x = 240 then 144 else 128
def tw_hi (x : Nat) : Nat := if x = 237 then 159 else if x = 244 then 143 else 191
def tw_v0 (x : Nat) : Nat := if tw_more x = 0 then x else if tw_more x = 1 then x % 32 else if tw_more x = 2 then x % 16 else x % 8
/-- the bytes behind the first from its place j on, k of them -/
def tw_cs (b : Nat → Nat) (x i : Nat) : Nat → Nat → Nat → Option Nat
  | 0, _, v => some v
  | k + 1, j, v => if b (i + j) < (if 1 < j then 128 else tw_lo x) ∨ (if 1 < j then 191 else tw_hi x) < b (i + j) then none else tw_cs b x i k (j + 1) (v * 64 + b (i + j) % 64)
/-- one letter: its number and how many bytes -/
def tw_step (b : Nat → Nat) (i e : Nat) : Option (Nat × Nat) := if tw_more (b i) = 9 ∨ e ≤ i + tw_more (b i) then none else (tw_cs b (b i) i (tw_more (b i)) 1 (tw_v0 (b i))).map (fun v => (v, tw_more (b i) + 1))
def tw_enc (v : Nat) : List Nat := if v < 65536 then [v] else [55296 + (v - 65536) / 1024, 56320 + (v - 65536) % 1024]
def tw_us (b : Nat → Nat) (e : Nat) : Nat → Nat → Option (List Nat)
  | 0, _ => some []
  | n + 1, i => if e ≤ i then some [] else match tw_step b i e with
    | none => none
    | some q => (tw_us b e n (i + q.2)).map (fun r => tw_enc q.1 ++ r)
def tw_dec (b : Nat → Nat) (i e : Nat) : Option (List Nat) := tw_us b e (e + 1) i
def tw_out (o : Option (List Nat)) (r : Int32) (g : Nat → Int32) : Prop := match o with
  | none => r = -1
  | some u => r = nI u.length ∧ ∀ k, k < u.length → g k = nI (u.getD k 0)
theorem tw_more_cases (x : Nat) : (tw_more x = 0 ∧ x < 128) ∨ tw_more x = 9 ∨ (tw_more x = 1 ∧ 194 ≤ x ∧ x < 224) ∨ (tw_more x = 2 ∧ 224 ≤ x ∧ x < 240) ∨ (tw_more x = 3 ∧ 240 ≤ x ∧ x < 245) := by
  unfold tw_more
  split
  · omega
  · split
    · omega
    · split
      · omega
      · split
        · omega
        · split <;> omega
theorem tw_cs_1 (b : Nat → Nat) (x i v : Nat) : tw_cs b x i 1 1 v = if b (i + 1) < tw_lo x ∨ tw_hi x < b (i + 1) then none else some (v * 64 + b (i + 1) % 64) := by simp [tw_cs]
theorem tw_cs_2 (b : Nat → Nat) (x i v : Nat) : tw_cs b x i 2 1 v = if b (i + 1) < tw_lo x ∨ tw_hi x < b (i + 1) then none else if b (i + 2) < 128 ∨ 191 < b (i + 2) then none else some ((v * 64 + b (i + 1) % 64) * 64 + b (i + 2) % 64) := by simp [tw_cs]
theorem tw_cs_3 (b : Nat → Nat) (x i v : Nat) : tw_cs b x i 3 1 v = if b (i + 1) < tw_lo x ∨ tw_hi x < b (i + 1) then none else if b (i + 2) < 128 ∨ 191 < b (i + 2) then none else if b (i + 3) < 128 ∨ 191 < b (i + 3) then none else some (((v * 64 + b (i + 1) % 64) * 64 + b (i + 2) % 64) * 64 + b (i + 3) % 64) := by simp [tw_cs]
/-- a letter read: its bytes lie before the end, its number is small, its units are no more than its bytes -/
theorem tw_step_some {b : Nat → Nat} {i e : Nat} {q : Nat × Nat} (h : tw_step b i e = some q) : 1 ≤ q.2 ∧ i + q.2 ≤ e ∧ q.1 < 2097152 ∧ (tw_enc q.1).length ≤ q.2 := by
  unfold tw_step at h
  split at h
  · cases h
  · rename_i hn
    have hlen : ∀ v : Nat, (tw_enc v).length ≤ 2 := fun v => by unfold tw_enc; split <;> simp
    have hlen1 : ∀ v : Nat, v < 65536 → (tw_enc v).length = 1 := fun v hv => by unfold tw_enc; rw [if_pos hv]; rfl
    rcases tw_more_cases (b i) with ⟨hm, hr⟩ | hm | ⟨hm, hr⟩ | ⟨hm, hr⟩ | ⟨hm, hr⟩
    · rw [hm] at h hn
      simp only [tw_cs, tw_v0, hm, Option.map_some, if_true, Option.some.injEq] at h
      subst h
      dsimp only
      have := hlen1 (b i) (by omega)
      omega
    · omega
    · rw [hm, tw_cs_1] at h
      rw [hm] at hn
      split at h
      · cases h
      · simp only [tw_v0, hm, Option.map_some, Option.some.injEq] at h
        subst h
        dsimp only
        simp only [Nat.one_ne_zero, if_false, if_true]
        have := hlen1 (b i % 32 * 64 + b (i + 1) % 64) (by omega)
        omega
    · rw [hm, tw_cs_2] at h
      rw [hm] at hn
      split at h
      · cases h
      · split at h
        · cases h
        · simp [tw_v0, hm] at h
          subst h
          dsimp only
          have := hlen1 ((b i % 16 * 64 + b (i + 1) % 64) * 64 + b (i + 2) % 64) (by omega)
          omega
    · rw [hm, tw_cs_3] at h
      rw [hm] at hn
      split at h
      · cases h
      · split at h
        · cases h
        · split at h
          · cases h
          · simp [tw_v0, hm] at h
            subst h
            dsimp only
            have := hlen (((b i % 8 * 64 + b (i + 1) % 64) * 64 + b (i + 2) % 64) * 64 + b (i + 3) % 64)
            omega
-- ===== the library's tables =====
def tw_FUl : List Int := [-2, -2, -2, -2, -2, -2, -2, -2, -2, -2, -2, -2, -2, -2, -2, -2, -2, -2, -2, -2, -2, -2, -2, -2, -2, -2, -2, -2, -2, -2, -2, -2, -2, -2, -2, -2, -2, -2, -2, -2, -2, -2, -2, -2, -2, -2, -2, -2, -2, -2, -2, -2, -2, -2, -2, -2, -2, -2, -2, -2, -2, -2, -2, -2, -2, -2, 512, 768, 1024, 1280, 1536, 1792, 2048, 2304, 2560, 2816, 3072, 3328, 3584, 3840, 4096, 4352, 4608, 4864, 5120, 5376, 5632, 5888, 6144, 6400, 6656, 6912, 7168, 7424, 7680, 7936, 48, 272, 528, 784, 1040, 1296, 1552, 1808, 2064, 2320, 2576, 2832, 3088, 3392, 3600, 3856, 80, 288, 544, 800, 1120, -2, -2, -2, -2, -2, -2, -2, -2, -2, -2, -2]
def tw_TRl : List Int := [-2, -2, -2, -2, -2, -2, -2, -2, -1, -1, -1, -1, -2, -2, -2, -2, -2, -2, -2, -2, -2, -2, -2, -2, 0, 0, 0, 0, -2, -2, -2, -2, -2, -2, -2, -2, -2, -2, -2, -2, 16, 16, 16, 16, -2, -2, -2, -2, -2, -2, -2, -2, -2, -2, -2, -2, -2, -2, 0, 0, -2, -2, -2, -2, -2, -2, -2, -2, -2, -2, -2, -2, 0, 0, -2, -2, -2, -2, -2, -2, -2, -2, -2, -2, -2, -2, -2, -2, -2, 16, 16, 16, -2, -2, -2, -2, -2, -2, -2, -2, -2, -2, -2, -2, 16, -2, -2, -2, -2, -2, -2, -2]
def tw_FU (j : Nat) : Int32 := Int32.ofInt (tw_FUl.getD j 0)
def tw_TR (j : Nat) : Int32 := Int32.ofInt (tw_TRl.getD j 0)
def tw_st (x : Nat) : Nat := if x < 224 then 0 else if x = 224 then 48 else if x = 237 then 64 else if x < 240 then 16 else if x = 240 then 80 else if x < 244 then 32 else 96
def tw_nx (st : Nat) : Nat := if st = 32 ∨ st = 80 ∨ st = 96 then 16 else 0
def tw_slo (st : Nat) : Nat := if st = 48 then 160 else if st = 80 then 144 else 128
def tw_shi (st : Nat) : Nat := if st = 64 then 159 else if st = 96 then 143 else 191
/-- n bytes are still wanted in the state st -/
def tw_ok (n st : Nat) : Prop := (n = 1 ∧ st = 0) ∨ (n = 2 ∧ (st = 16 ∨ st = 48 ∨ st = 64)) ∨ (n = 3 ∧ (st = 32 ∨ st = 80 ∨ st = 96))
theorem tw_FU_bad : ∀ x, x < 256 → 128 ≤ x → tw_more x = 9 → tw_FU (x % 128) = -2 := by decide +kernel
theorem tw_FU_ok : ∀ x, x < 256 → 128 ≤ x → tw_more x ≠ 9 → tw_FU (x % 128) = nI (tw_v0 x * 256 + tw_st x) ∧ (nI (tw_v0 x * 256 + tw_st x)).toInt8.toInt32 = nI (tw_st x) ∧ tw_v0 x < 32 ∧ tw_st x < 112 := by decide +kernel
theorem tw_TR_1 : ∀ y, y < 256 → tw_TR (0 + y / 16) = if y < 128 ∨ 191 < y then -2 else -1 := by decide +kernel
theorem tw_TR_16 : ∀ y, y < 256 → tw_TR (16 + y / 16) = if y < 128 ∨ 191 < y then -2 else nI 0 := by decide +kernel
theorem tw_TR_48 : ∀ y, y < 256 → tw_TR (48 + y / 16) = if y < 160 ∨ 191 < y then -2 else nI 0 := by decide +kernel
theorem tw_TR_64 : ∀ y, y < 256 → tw_TR (64 + y / 16) = if y < 128 ∨ 159 < y then -2 else nI 0 := by decide +kernel
theorem tw_TR_32 : ∀ y, y < 256 → tw_TR (32 + y / 16) = if y < 128 ∨ 191 < y then -2 else nI 16 := by decide +kernel
theorem tw_TR_80 : ∀ y, y < 256 → tw_TR (80 + y / 16) = if y < 144 ∨ 191 < y then -2 else nI 16 := by decide +kernel
theorem tw_TR_96 : ∀ y, y < 256 → tw_TR (96 + y / 16) = if y < 128 ∨ 143 < y then -2 else nI 16 := by decide +kernel
theorem tw_TR_ok {n st y : Nat} (h : tw_ok (n + 1) st) (hy : y < 256) : tw_TR (st + y / 16) = if y < tw_slo st ∨ tw_shi st < y then -2 else if n = 0 then -1 else nI (tw_nx st) := by
  rcases h with ⟨h1, rfl⟩ | ⟨h1, rfl | rfl | rfl⟩ | ⟨h1, rfl | rfl | rfl⟩
  · rw [show n = 0 by omega]; exact tw_TR_1 y hy
  · rw [show n = 1 by omega]; exact tw_TR_16 y hy
  · rw [show n = 1 by omega]; exact tw_TR_48 y hy
  · rw [show n = 1 by omega]; exact tw_TR_64 y hy
  · rw [show n = 2 by omega]; exact tw_TR_32 y hy
  · rw [show n = 2 by omega]; exact tw_TR_80 y hy
  · rw [show n = 2 by omega]; exact tw_TR_96 y hy
theorem tw_ok_nx {n st : Nat} (h : tw_ok (n + 1) st) (hn : n ≠ 0) : tw_ok n (tw_nx st) := by
  rcases h with ⟨h1, rfl⟩ | ⟨h1, rfl | rfl | rfl⟩ | ⟨h1, rfl | rfl | rfl⟩
  · omega
  · rw [show n = 1 by omega]; exact Or.inl ⟨rfl, rfl⟩
  · rw [show n = 1 by omega]; exact Or.inl ⟨rfl, rfl⟩
  · rw [show n = 1 by omega]; exact Or.inl ⟨rfl, rfl⟩
  · rw [show n = 2 by omega]; exact Or.inr (Or.inl ⟨rfl, Or.inl rfl⟩)
  · rw [show n = 2 by omega]; exact Or.inr (Or.inl ⟨rfl, Or.inl rfl⟩)
  · rw [show n = 2 by omega]; exact Or.inr (Or.inl ⟨rfl, Or.inl rfl⟩)
theorem tw_ok_lt {n st : Nat} (h : tw_ok n st) : st ≤ 96 := by
  rcases h with ⟨h1, rfl⟩ | ⟨h1, rfl | rfl | rfl⟩ | ⟨h1, rfl | rfl | rfl⟩ <;> omega
/-- the library's inner loop: n bytes wanted, the next at i -/
def tw_inn (b : Nat → Nat) (e : Nat) : Nat → Nat → Nat → Nat → Option (Nat × Nat)
  | 0, _, _, _ => none
  | n + 1, st, i, cp => if e ≤ i then none else if b i < tw_slo st ∨ tw_shi st < b i then none else if n = 0 then some (cp * 64 + b i % 64, i + 1) else tw_inn b e n (tw_nx st) (i + 1) (cp * 64 + b i % 64)
theorem tw_st_ok {x : Nat} (h : tw_more x ≠ 0) (h9 : tw_more x ≠ 9) : tw_ok (tw_more x) (tw_st x) ∧ tw_slo (tw_st x) = tw_lo x ∧ tw_shi (tw_st x) = tw_hi x := by
  have hx : x < 245 := by rcases tw_more_cases x with q | q | q | q | q <;> omega
  have hx2 : 194 ≤ x := by rcases tw_more_cases x with q | q | q | q | q <;> omega
  have key : ∀ y, y < 245 → 194 ≤ y → ((tw_more y = 1 ∧ tw_st y = 0) ∨ (tw_more y = 2 ∧ (tw_st y = 16 ∨ tw_st y = 48 ∨ tw_st y = 64)) ∨ (tw_more y = 3 ∧ (tw_st y = 32 ∨ tw_st y = 80 ∨ tw_st y = 96))) ∧ tw_slo (tw_st y) = tw_lo y ∧ tw_shi (tw_st y) = tw_hi y := by decide +kernel
  exact key x hx hx2
theorem tw_step_inn (b : Nat → Nat) (i e : Nat) (h : tw_more (b i) ≠ 0) (h9 : tw_more (b i) ≠ 9) : tw_step b i e = (tw_inn b e (tw_more (b i)) (tw_st (b i)) (i + 1) (tw_v0 (b i))).map (fun q => (q.1, q.2 - i)) := by
  obtain ⟨ho, hl, hh⟩ := tw_st_ok h h9
  unfold tw_step
  generalize hst : tw_st (b i) = st at ho hl hh ⊢
  generalize tw_v0 (b i) = v
  rcases ho with ⟨h1, h2⟩ | ⟨h1, h2⟩ | ⟨h1, h2⟩
  · rw [h1, tw_cs_1]
    simp only [tw_inn, hl, hh]
    by_cases c1 : e ≤ i + 1
    · simp [c1]
    · by_cases c2 : b (i + 1) < tw_lo (b i) ∨ tw_hi (b i) < b (i + 1)
      · simp [c1, c2]
      · simp [c1, c2]; omega
  · have e0 : tw_nx st = 0 := by rcases h2 with rfl | rfl | rfl <;> rfl
    rw [h1, tw_cs_2]
    simp only [tw_inn, hl, hh, e0]
    by_cases c2 : b (i + 1) < tw_lo (b i) ∨ tw_hi (b i) < b (i + 1)
    · simp [c2]
    · by_cases c1 : e ≤ i + 2
      · simp [c1, c2]
      · have c0 : ¬ e ≤ i + 1 := by omega
        by_cases c3 : b (i + 2) < 128 ∨ 191 < b (i + 2)
        · simp [c0, c1, c2, c3, tw_slo, tw_shi]
        · simp [c0, c1, c2, c3, tw_slo, tw_shi]; omega
  · have e0 : tw_nx st = 16 := by rcases h2 with rfl | rfl | rfl <;> rfl
    have e1 : tw_nx 16 = 0 := rfl
    rw [h1, tw_cs_3]
    simp only [tw_inn, hl, hh, e0, e1]
    by_cases c2 : b (i + 1) < tw_lo (b i) ∨ tw_hi (b i) < b (i + 1)
    · simp [c2]
    · by_cases c3 : b (i + 2) < 128 ∨ 191 < b (i + 2)
      · simp [c2, c3, tw_slo, tw_shi]
      · by_cases c1 : e ≤ i + 3
        · simp [c1, c2, c3, tw_slo, tw_shi]
        · have c0 : ¬ e ≤ i + 1 := by omega
          have c00 : ¬ e ≤ i + 2 := by omega
          by_cases c4 : b (i + 3) < 128 ∨ 191 < b (i + 3)
          · simp [c0, c00, c1, c2, c3, c4, tw_slo, tw_shi]
          · simp [c0, c00, c1, c2, c3, c4, tw_slo, tw_shi]; omega
-- ===== letters laid =====
def tw_utf (v : Nat) : List Nat := if v < 128 then [v] else if v < 2048 then [192 + v / 64, 128 + v % 64] else if v < 65536 then [224 + v / 4096, 128 + v / 64 % 64, 128 + v % 64] else [240 + v / 262144, 128 + v / 4096 % 64, 128 + v / 64 % 64, 128 + v % 64]
def tw_put (b : Nat → Nat) (n : Nat) : List Nat → Nat → Nat
  | [] => b
  | x :: xs => tw_put (tw_up b n x) (n + 1) xs
theorem tw_put_lo (l : List Nat) : ∀ (b : Nat → Nat) (n j : Nat), j < n → tw_put b n l j = b j := by
  induction l with
  | nil => intro b n j _; rfl
  | cons x xs ih =>
    intro b n j h
    show tw_put (tw_up b n x) (n + 1) xs j = b j
    rw [ih _ _ _ (by omega)]
    exact if_neg (by omega)
theorem tw_put_in (l : List Nat) : ∀ (b : Nat → Nat) (n j : Nat), j < l.length → tw_put b n l (n + j) = l.getD j 0 := by
  induction l with
  | nil => intro b n j h; exact absurd h (Nat.not_lt_zero _)
  | cons x xs ih =>
    intro b n j h
    show tw_put (tw_up b n x) (n + 1) xs (n + j) = _
    cases j with
    | zero =>
      rw [tw_put_lo _ _ _ _ (by omega)]
      exact if_pos rfl
    | succ j =>
      have := ih (tw_up b n x) (n + 1) j (by simpa using h)
      rw [show n + (j + 1) = n + 1 + j by omega, this]
      rfl
theorem tw_put_256 (l : List Nat) : ∀ (b : Nat → Nat) (n : Nat), (∀ j, b j < 256) → (∀ x ∈ l, x < 256) → ∀ j, tw_put b n l j < 256 := by
  induction l with
  | nil => intro b n h _; exact h
  | cons x xs ih =>
    intro b n h hx
    refine ih _ _ (fun j => ?_) (fun y hy => hx y (List.mem_cons_of_mem _ hy))
    show (if j = n then x else b j) < 256
    split
    · exact hx x List.mem_cons_self
    · exact h j
theorem tw_utf_256 {v : Nat} (hv : v < 2097152) : ∀ x ∈ tw_utf v, x < 256 := by
  unfold tw_utf
  intro x hx
  split at hx
  · simp only [List.mem_cons, List.not_mem_nil, or_false] at hx; omega
  · split at hx
    · simp only [List.mem_cons, List.not_mem_nil, or_false] at hx; omega
    · split at hx
      · simp only [List.mem_cons, List.not_mem_nil, or_false] at hx; omega
      · simp only [List.mem_cons, List.not_mem_nil, or_false] at hx; omega
/-- from the place i on the bytes of l lie -/
def tw_at (b : Nat → Nat) (i : Nat) (l : List Nat) : Prop := ∀ j, j < l.length → b (i + j) = l.getD j 0
theorem tw_at_nil (b : Nat → Nat) (i : Nat) : tw_at b i [] := fun j h => absurd h (Nat.not_lt_zero _)
theorem tw_at_app {b : Nat → Nat} {i : Nat} {l1 l2 : List Nat} : tw_at b i (l1 ++ l2) ↔ tw_at b i l1 ∧ tw_at b (i + l1.length) l2 := by
  constructor
  · intro h
    refine ⟨fun j hj => ?_, fun j hj => ?_⟩
    · rw [h j (by rw [List.length_append]; omega)]
      simp [List.getD_eq_getElem?_getD, List.getElem?_append_left hj]
    · rw [Nat.add_assoc, h (l1.length + j) (by rw [List.length_append]; omega)]
      simp [List.getD_eq_getElem?_getD, List.getElem?_append_right]
  · rintro ⟨h1, h2⟩ j hj
    rw [List.length_append] at hj
    by_cases c : j < l1.length
    · rw [h1 j c]
      simp [List.getD_eq_getElem?_getD, List.getElem?_append_left c]
    · have := h2 (j - l1.length) (by omega)
      rw [show i + l1.length + (j - l1.length) = i + j by omega] at this
      rw [this]
      simp [List.getD_eq_getElem?_getD, List.getElem?_append_right (Nat.le_of_not_lt c)]
theorem tw_at_put {b : Nat → Nat} {l l2 : List Nat} (h : tw_at b 0 l) : tw_at (tw_put b l.length l2) 0 (l ++ l2) := by
  refine tw_at_app.2 ⟨fun j hj => ?_, fun j hj => ?_⟩
  · rw [tw_put_lo _ _ _ _ (by omega)]
    exact h j hj
  · rw [Nat.zero_add]
    exact tw_put_in _ _ _ _ hj
theorem tw_at0 {b : Nat → Nat} {i x : Nat} {l : List Nat} (h : tw_at b i (x :: l)) : b i = x := by
  have := h 0 (by simp)
  simpa using this
theorem tw_at1 {b : Nat → Nat} {i x y : Nat} {l : List Nat} (h : tw_at b i (x :: y :: l)) : b (i + 1) = y := by
  have := h 1 (by simp)
  simpa using this
theorem tw_at2 {b : Nat → Nat} {i x y z : Nat} {l : List Nat} (h : tw_at b i (x :: y :: z :: l)) : b (i + 2) = z := by
  have := h 2 (by simp)
  simpa using this
theorem tw_at3 {b : Nat → Nat} {i x y z w : Nat} {l : List Nat} (h : tw_at b i (x :: y :: z :: w :: l)) : b (i + 3) = w := by
  have := h 3 (by simp)
  simpa using this
theorem tw_more_0 {x : Nat} (h : x < 128) : tw_more x = 0 := if_pos h
theorem tw_more_1 {x : Nat} (h : 194 ≤ x) (h2 : x < 224) : tw_more x = 1 := by
  unfold tw_more; rw [if_neg (by omega), if_neg (by omega), if_pos h2]
theorem tw_more_2 {x : Nat} (h : 224 ≤ x) (h2 : x < 240) : tw_more x = 2 := by
  unfold tw_more; rw [if_neg (by omega), if_neg (by omega), if_neg (by omega), if_pos h2]
theorem tw_more_3 {x : Nat} (h : 240 ≤ x) (h2 : x < 245) : tw_more x = 3 := by
  unfold tw_more; rw [if_neg (by omega), if_neg (by omega), if_neg (by omega), if_neg (by omega), if_pos h2]
theorem tw_more_9 {x : Nat} (h : 245 ≤ x) : tw_more x = 9 := by
  unfold tw_more; rw [if_neg (by omega), if_neg (by omega), if_neg (by omega), if_neg (by omega), if_neg (by omega)]
def tw_sc (v : Nat) : Prop := v < 55296 ∨ (57344 ≤ v ∧ v < 1114112)
theorem tw_lo_cases (x : Nat) : (x = 224 ∧ tw_lo x = 160) ∨ (x = 240 ∧ tw_lo x = 144) ∨ (x ≠ 224 ∧ x ≠ 240 ∧ tw_lo x = 128) := by
  unfold tw_lo; split
  · exact Or.inl ⟨by assumption, rfl⟩
  · split
    · exact Or.inr (Or.inl ⟨by assumption, rfl⟩)
    · exact Or.inr (Or.inr ⟨by assumption, by assumption, rfl⟩)
theorem tw_hi_cases (x : Nat) : (x = 237 ∧ tw_hi x = 159) ∨ (x = 244 ∧ tw_hi x = 143) ∨ (x ≠ 237 ∧ x ≠ 244 ∧ tw_hi x = 191) := by
  unfold tw_hi; split
  · exact Or.inl ⟨by assumption, rfl⟩
  · split
    · exact Or.inr (Or.inl ⟨by assumption, rfl⟩)
    · exact Or.inr (Or.inr ⟨by assumption, by assumption, rfl⟩)
theorem tw_utf_1 {v : Nat} (h : v < 128) : tw_utf v = [v] := if_pos h
theorem tw_utf_2 {v : Nat} (h : 128 ≤ v) (h2 : v < 2048) : tw_utf v = [192 + v / 64, 128 + v % 64] := by
  unfold tw_utf; rw [if_neg (by omega), if_pos h2]
theorem tw_utf_3 {v : Nat} (h : 2048 ≤ v) (h2 : v < 65536) : tw_utf v = [224 + v / 4096, 128 + v / 64 % 64, 128 + v % 64] := by
  unfold tw_utf; rw [if_neg (by omega), if_neg (by omega), if_pos h2]
theorem tw_utf_4 {v : Nat} (h : 65536 ≤ v) : tw_utf v = [240 + v / 262144, 128 + v / 4096 % 64, 128 + v / 64 % 64, 128 + v % 64] := by
  unfold tw_utf; rw [if_neg (by omega), if_neg (by omega), if_neg (by omega)]
/-- a laid letter is read as itself -/
theorem tw_step_utf {b : Nat → Nat} {i e v : Nat} (hs : tw_sc v) (h : tw_at b i (tw_utf v)) (he : i + (tw_utf v).length ≤ e) : tw_step b i e = some (v, (tw_utf v).length) := by
  unfold tw_step
  by_cases c1 : v < 128
  · rw [tw_utf_1 c1] at h he ⊢
    have h0 := tw_at0 h
    have hm := tw_more_0 c1
    simp only [List.length_cons, List.length_nil] at he
    rw [h0, hm, if_neg (by omega)]
    simp [tw_cs, tw_v0, hm]
  · by_cases c2 : v < 2048
    · rw [tw_utf_2 (by omega) c2] at h he ⊢
      have h0 := tw_at0 h
      have h1 := tw_at1 h
      have hm := tw_more_1 (x := 192 + v / 64) (by omega) (by omega)
      simp only [List.length_cons, List.length_nil] at he
      rw [h0, hm, if_neg (by omega), tw_cs_1, h1]
      have l1 := tw_lo_cases (192 + v / 64)
      have l2 := tw_hi_cases (192 + v / 64)
      rw [if_neg (by omega)]
      simp [tw_v0, hm]
      omega
    · by_cases c3 : v < 65536
      · rw [tw_utf_3 (by omega) c3] at h he ⊢
        have h0 := tw_at0 h
        have h1 := tw_at1 h
        have h2 := tw_at2 h
        have hm := tw_more_2 (x := 224 + v / 4096) (by omega) (by omega)
        simp only [List.length_cons, List.length_nil] at he
        rw [h0, hm, if_neg (by omega), tw_cs_2, h1, h2]
        have l1 := tw_lo_cases (224 + v / 4096)
        have l2 := tw_hi_cases (224 + v / 4096)
        unfold tw_sc at hs
        rw [if_neg (by omega), if_neg (by omega)]
        simp [tw_v0, hm]
        omega
      · rw [tw_utf_4 (by omega)] at h he ⊢
        have h0 := tw_at0 h
        have h1 := tw_at1 h
        have h2 := tw_at2 h
        have h3 := tw_at3 h
        unfold tw_sc at hs
        have hm := tw_more_3 (x := 240 + v / 262144) (by omega) (by omega)
        simp only [List.length_cons, List.length_nil] at he
        rw [h0, hm, if_neg (by omega), tw_cs_3, h1, h2, h3]
        have l1 := tw_lo_cases (240 + v / 262144)
        have l2 := tw_hi_cases (240 + v / 262144)
        rw [if_neg (by omega), if_neg (by omega), if_neg (by omega)]
        simp [tw_v0, hm]
        omega
/-- surrogates and numbers from 1114112 on, laid, are refused -/
theorem tw_step_not {b : Nat → Nat} {i e v : Nat} (hs : ¬ tw_sc v) (hv : v < 2097152) (h : tw_at b i (tw_utf v)) : tw_step b i e = none := by
  unfold tw_sc at hs
  unfold tw_step
  by_cases c3 : v < 65536
  · rw [tw_utf_3 (by omega) c3] at h
    have h0 := tw_at0 h
    have h1 := tw_at1 h
    have hm := tw_more_2 (x := 224 + v / 4096) (by omega) (by omega)
    have l2 := tw_hi_cases (224 + v / 4096)
    rw [h0, hm]
    split
    · rfl
    · rw [tw_cs_2, h1, if_pos (by omega)]; rfl
  · rw [tw_utf_4 (by omega)] at h
    have h0 := tw_at0 h
    have h1 := tw_at1 h
    by_cases c4 : 1310720 ≤ v
    · have hm := tw_more_9 (x := 240 + v / 262144) (by omega)
      rw [h0, hm, if_pos (Or.inl rfl)]
    · have hm := tw_more_3 (x := 240 + v / 262144) (by omega) (by omega)
      have l2 := tw_hi_cases (240 + v / 262144)
      rw [h0, hm]
      split
      · rfl
      · rw [tw_cs_3, h1, if_pos (by omega)]; rfl
/-- a laid letter of two bytes or more, its last byte cut, is refused -/
theorem tw_step_cut {b : Nat → Nat} {i e v : Nat} (h128 : 128 ≤ v) (hv : v < 1114112) (h : b i = (tw_utf v).getD 0 0) (he : e < i + (tw_utf v).length) : tw_step b i e = none := by
  unfold tw_step
  by_cases c2 : v < 2048
  · rw [tw_utf_2 (by omega) c2] at h he
    have h0 : b i = 192 + v / 64 := h
    have hm := tw_more_1 (x := 192 + v / 64) (by omega) (by omega)
    simp only [List.length_cons, List.length_nil] at he
    rw [h0, hm, if_pos (by omega)]
  · by_cases c3 : v < 65536
    · rw [tw_utf_3 (by omega) c3] at h he
      have h0 : b i = 224 + v / 4096 := h
      have hm := tw_more_2 (x := 224 + v / 4096) (by omega) (by omega)
      simp only [List.length_cons, List.length_nil] at he
      rw [h0, hm, if_pos (by omega)]
    · rw [tw_utf_4 (by omega)] at h he
      have h0 : b i = 240 + v / 262144 := h
      have hm := tw_more_3 (x := 240 + v / 262144) (by omega) (by omega)
      simp only [List.length_cons, List.length_nil] at he
      rw [h0, hm, if_pos (by omega)]
theorem tw_us_end {b : Nat → Nat} {e n i : Nat} (h : e ≤ i) : tw_us b e n i = some [] := by
  cases n with
  | zero => rfl
  | succ n => exact if_pos h
theorem tw_us_none {b : Nat → Nat} {e n i : Nat} (h : i < e) (hs : tw_step b i e = none) : tw_us b e (n + 1) i = none := by
  show (if e ≤ i then some [] else match tw_step b i e with
    | none => none
    | some q => (tw_us b e n (i + q.2)).map (fun r => tw_enc q.1 ++ r)) = none
  rw [if_neg (by omega), hs]
theorem tw_us_some {b : Nat → Nat} {e n i : Nat} {q : Nat × Nat} (h : i < e) (hs : tw_step b i e = some q) : tw_us b e (n + 1) i = (tw_us b e n (i + q.2)).map (fun r => tw_enc q.1 ++ r) := by
  show (if e ≤ i then some [] else match tw_step b i e with
    | none => none
    | some q => (tw_us b e n (i + q.2)).map (fun r => tw_enc q.1 ++ r)) = _
  rw [if_neg (by omega), hs]
theorem tw_utf_pos (v : Nat) : 1 ≤ (tw_utf v).length := by
  unfold tw_utf
  split
  · simp
  · split
    · simp
    · split <;> simp
theorem tw_us_utf {b : Nat → Nat} {e : Nat} : ∀ (ps : List Nat) (n i : Nat), (∀ v ∈ ps, tw_sc v) → tw_at b i (ps.flatMap tw_utf) → i + (ps.flatMap tw_utf).length = e → ps.length ≤ n → tw_us b e n i = some (ps.flatMap tw_enc) := by
  intro ps
  induction ps with
  | nil =>
    intro n i _ _ he _
    simp only [List.flatMap_nil, List.length_nil] at he
    exact tw_us_end (by omega)
  | cons v vs ih =>
    intro n i hs hat he hn
    cases n with
    | zero => exact absurd hn (by simp)
    | succ n =>
      rw [List.flatMap_cons] at hat he ⊢
      obtain ⟨h1, h2⟩ := tw_at_app.1 hat
      rw [List.length_append] at he
      have hp := tw_utf_pos v
      have h3 := tw_step_utf (hs v List.mem_cons_self) h1 (e := e) (by omega)
      rw [tw_us_some (by omega) h3, ih n (i + (tw_utf v).length) (fun w hw => hs w (List.mem_cons_of_mem _ hw)) h2 (by omega) (by simpa using hn)]
      rfl
theorem tw_utf_lenle (ps : List Nat) : ps.length ≤ (ps.flatMap tw_utf).length := by
  induction ps with
  | nil => simp
  | cons v vs ih =>
    rw [List.flatMap_cons, List.length_append]
    have := tw_utf_pos v
    simp only [List.length_cons]
    omega
theorem tw_dec_utf {b : Nat → Nat} {i e : Nat} (ps : List Nat) (hs : ∀ v ∈ ps, tw_sc v) (hat : tw_at b i (ps.flatMap tw_utf)) (he : i + (ps.flatMap tw_utf).length = e) : tw_dec b i e = some (ps.flatMap tw_enc) :=
  tw_us_utf ps _ i hs hat he (by have := tw_utf_lenle ps; omega)
theorem tw_dec_none {b : Nat → Nat} {i e : Nat} (h : i < e) (hs : tw_step b i e = none) : tw_dec b i e = none := tw_us_none h hs
theorem tw_dec_end {b : Nat → Nat} {i e : Nat} (h : e ≤ i) : tw_dec b i e = some [] := tw_us_end h
/-- what is read depends on the bytes alone -/
theorem tw_enc_len (v : Nat) : (tw_enc v).length = if v < 65536 then 1 else 2 := by
  unfold tw_enc; split <;> rfl
end
section
/-! the world: the library's tables, a WireLetters object, rows over them -/
set_option maxRecDepth 100000
abbrev vwCl : List vw_C := [(RX1, TX1, 4)]
/-- the library's two tables lie where the statics say, outside A -/
def tw_TB (A : Nat → Prop) (U : State) (H : Heap) : Prop := ∃ t1 t2 : Nat, va_Z "UTF8" "firstUnitTable" "[S" (.ref t1) A U H ∧ va_T .short t1 128 (fun j => .int (tw_FU j)) A U H ∧ va_Z "UTF8" "transitionTable" "[B" (.ref t2) A U H ∧ va_T .byte t2 112 (fun j => .int (tw_TR j)) A U H
theorem tw_TB.moved {A : Nat → Prop} {u U : State} {H : Heap} (h : tw_TB A u H) (hvm : u.vm.Alike U.vm) : tw_TB A U H := by
  obtain ⟨t1, t2, h1, h2, h3, h4⟩ := h
  exact ⟨t1, t2, va_Z.moved hvm h1, va_T.moved hvm h2, va_Z.moved hvm h3, va_T.moved hvm h4⟩
theorem tw_TB.kept {A : Nat → Prop} {U : State} {H H1 : Heap} (h : tw_TB A U H) (hq : ∀ a : Nat, a < H.size → ¬ A a → H1[a]? = H[a]?) : tw_TB A U H1 := by
  obtain ⟨t1, t2, h1, h2, h3, h4⟩ := h
  exact ⟨t1, t2, va_Z.kept h1 hq, va_T.kept h2 hq, va_Z.kept h3 hq, va_T.kept h4 hq⟩
theorem tw_TB.narrow {A B : Nat → Prop} {U : State} {H : Heap} (h : tw_TB A U H) (hAB : ∀ q, B q → A q) : tw_TB B U H := by
  obtain ⟨t1, t2, h1, h2, h3, h4⟩ := h
  exact ⟨t1, t2, va_Z.narrow h1 hAB, va_T.narrow h2 hAB, va_Z.narrow h3 hAB, va_T.narrow h4 hAB⟩
/-- cells X in the heap, apart, in A; since the start nothing outside A has changed -/
def tw_Wd (dC : Nat → ClassId) (dI : Nat → Nat → Nat) (A : Nat → Prop) (s : State) (X : va_W) (H : Heap) (locs : List Loc) : Prop := va_P (dC, dI) vwCl X H ∧ va_D A X ∧ va_S A s.heap H locs
/-- a WireLetters: the object, its text, its letters -/
abbrev tw_WL (dB dH : ClassId) (h t q : Nat) (b : Nat → Nat) (g : Nat → Int32) (n : Nat) (rd : Int32) : va_W := [(h, .inr (0, [.ref t, .ref q, .int (nI n), .int rd])), (t, .inl (dB, 1024, .inl (tw_tx b))), (q, .inl (dH, 1024, .inl g))]
abbrev tw_Pre (dC : Nat → ClassId) (dI : Nat → Nat → Nat) (tys : List (ClassId × FieldType)) (Y : va_W) (sz : Nat) : State → Prop := fun U => U.heap.size = sz ∧ va_P (dC, dI) vwCl Y U.heap ∧ va_K (dC, dI) vwCl tys U ∧ va_D (fun _ => True) Y ∧ tw_TB (va_A Y sz) U U.heap
abbrev tw_End (dC : Nat → ClassId) (dI : Nat → Nat → Nat) (A : Nat → Prop) (Y : va_W) (t : State) : Prop := va_P (dC, dI) vwCl Y t.heap ∧ va_D A Y
theorem tw_blind {dC : Nat → ClassId} {dI : Nat → Nat → Nat} {tys : List (ClassId × FieldType)} {Y : va_W} {sz : Nat} {av : List Value} : FrameBlind (va_Pc av (tw_Pre dC dI tys Y sz)) := fun a U g mk q => by
  obtain ⟨q0, q1, qP, qK, qD, qT⟩ := q
  exact ⟨q0, q1, qP, va_K.moved (u := U) (U := U.calling g mk a) (Vm.Alike.refl U.vm) qK, qD, tw_TB.moved (u := U) (U := U.calling g mk a) qT (Vm.Alike.refl U.vm)⟩
theorem tw_Pl {D : va_G} {X Y : va_W} {H : Heap} (h : va_P D vwCl (X ++ Y) H) : va_P D vwCl X H := fun k q hq => h k q (by rw [List.getElem?_append_left (List.getElem?_eq_some_iff.mp hq).1]; exact hq)
theorem tw_Pr {D : va_G} {X Y : va_W} {H : Heap} (h : va_P D vwCl (X ++ Y) H) : va_P D vwCl Y H := fun k q hq => h (X.length + k) q (by rw [List.getElem?_append_right (Nat.le_add_right _ _), Nat.add_sub_cancel_left]; exact hq)
theorem tw_Dl {A : Nat → Prop} {X Y : va_W} (h : va_D A (X ++ Y)) : va_D A X :=
  ⟨fun i j p q hp hq e => h.1 i j p q (by rw [List.getElem?_append_left (List.getElem?_eq_some_iff.mp hp).1]; exact hp) (by rw [List.getElem?_append_left (List.getElem?_eq_some_iff.mp hq).1]; exact hq) e,
   fun k q hq => h.2 k q (by rw [List.getElem?_append_left (List.getElem?_eq_some_iff.mp hq).1]; exact hq)⟩
theorem tw_Dr {A : Nat → Prop} {X Y : va_W} (h : va_D A (X ++ Y)) : va_D A Y :=
  ⟨fun i j p q hp hq e => by
    have := h.1 (X.length + i) (X.length + j) p q (by rw [List.getElem?_append_right (Nat.le_add_right _ _), Nat.add_sub_cancel_left]; exact hp) (by rw [List.getElem?_append_right (Nat.le_add_right _ _), Nat.add_sub_cancel_left]; exact hq) e
    omega,
   fun k q hq => h.2 (X.length + k) q (by rw [List.getElem?_append_right (Nat.le_add_right _ _), Nat.add_sub_cancel_left]; exact hq)⟩
theorem tw_Dx {A : Nat → Prop} {X Y : va_W} (h : va_D A (X ++ Y)) {i j : Nat} {p q : Nat × va_E} (hp : X[i]? = some p) (hq : Y[j]? = some q) : p.1 ≠ q.1 := fun e => by
  have hi := (List.getElem?_eq_some_iff.mp hp).1
  have := h.1 i (X.length + j) p q (by rw [List.getElem?_append_left hi]; exact hp) (by rw [List.getElem?_append_right (Nat.le_add_right _ _), Nat.add_sub_cancel_left]; exact hq) e
  omega
theorem tw_free {dC : Nat → ClassId} {dI : Nat → Nat → Nat} {A : Nat → Prop} {s : State} {X Y : va_W} {H : Heap} {locs : List Loc} (hw : tw_Wd dC dI A s (X ++ Y) H locs) (hA : ∀ q, s.heap.size ≤ q → A q) : ∀ q, va_A Y H.size q → A q := by
  intro q hq
  rcases hq with ⟨k, e, h⟩ | h
  · exact (tw_Dr hw.2.1).2 k (q, e) h
  · exact hA q (Nat.le_trans hw.2.2.1 h)
/-- behind a call that had the cells Y: the rest X is unchanged -/
theorem tw_join {dC : Nat → ClassId} {dI : Nat → Nat → Nat} {A : Nat → Prop} {s : State} {X Y Y1 : va_W} {H H1 : Heap} {locs locs1 : List Loc} (hw : tw_Wd dC dI A s (X ++ Y) H locs) (hA : ∀ q, s.heap.size ≤ q → A q) (hk : ∀ q : Nat, q < H.size → ¬ va_A Y H.size q → H1[q]? = H[q]?) (hP1 : va_P (dC, dI) vwCl Y1 H1) (hD1 : va_D (va_A Y H.size) Y1) (hS : va_S A s.heap H1 locs1) : tw_Wd dC dI A s (X ++ Y1) H1 locs1 := by
  have hX := tw_Pl hw.1
  have hlt : ∀ (k : Nat) (q : Nat × va_E), X[k]? = some q → q.1 < H.size := fun k q hq => va_at.lt (hX k q hq)
  have hno : ∀ (k : Nat) (q : Nat × va_E), X[k]? = some q → ¬ va_A Y H.size q.1 := by
    intro k q hq h
    rcases h with ⟨j, e, hj⟩ | h
    · exact tw_Dx hw.2.1 hq hj rfl
    · exact absurd (hlt k q hq) (by omega)
  refine ⟨va_P.app (hX.kept (fun k q hq => hk q.1 (hlt k q hq) (hno k q hq))) hP1, va_D.app (tw_Dl hw.2.1) (hD1.weaken (fun k q hq h => tw_free hw hA q.1 h)) ?_, hS⟩
  intro i j p q hp hq e
  exact hno i p hp (by rw [e]; exact hD1.2 j q hq)
section TW
variable {p : Program} {l : Launch} {e : Env} {R : Room} {s : State} {m : MethodId} {args : Array Value} {below : List Frame} {meth : Method} {c : Code} {H : Heap} {locs : List Loc} {cells slots : Nat} {Q : State → Prop} {cc : ByteArray} {pc : Nat} {ls : Array Slot} {rest st : List Value} {dC : Nat → ClassId} {dI : Nat → Nat → Nat} {A : Nat → Prop} {X Y : va_W} {tys : List (ClassId × FieldType)}
theorem tw_atH (hw : tw_Wd dC dI A s (X ++ Y) H locs) (hA : ∀ q, s.heap.size ≤ q → A q) (hT : tw_TB A s s.heap) (hK : va_K (dC, dI) vwCl tys s) {U : State} (hU : U.heap = H) (hW : s.WarmedH U.vm) : tw_Pre dC dI tys Y H.size U := by
  refine ⟨by rw [hU], by rw [hU]; exact tw_Pr hw.1, va_K.moved hW.alike hK, (tw_Dr hw.2.1).weaken (fun _ _ _ _ => trivial), ?_⟩
  rw [hU]
  exact ((hT.kept hw.2.2.2.1).narrow (tw_free hw hA)).moved hW.alike
theorem tw_preV {h : Nat} {fs : List Value} {As : List Value} (he : Y[0]? = some (h, .inr (0, fs))) (hw : tw_Wd dC dI A s (X ++ Y) H locs) (hA : ∀ q, s.heap.size ≤ q → A q) (hT : tw_TB A s s.heap) (hK : va_K (dC, dI) vwCl tys s) : PreV s H RX1 h (va_Pc (.ref h :: As) (tw_Pre dC dI tys Y H.size)) As :=
  ⟨tw_blind, va_recv hK (tw_Pr hw.1) (ci := 0) (q0 := 0) rfl he, fun U hU hW => ⟨rfl, tw_atH hw hA hT hK hU hW⟩⟩
theorem tw_preS {As : List Value} (hw : tw_Wd dC dI A s (X ++ Y) H locs) (hA : ∀ q, s.heap.size ≤ q → A q) (hT : tw_TB A s s.heap) (hK : va_K (dC, dI) vwCl tys s) : PreS s H (va_Pc As (tw_Pre dC dI tys Y H.size)) As :=
  ⟨tw_blind, fun U hU hW => ⟨rfl, tw_atH hw hA hT hK hU hW⟩⟩
theorem tw_calli {S : Type} {post : Int32 → S → Prop} {Y1 : S → va_W} {a : Array Value} (hr : va_Run p l e R s m args below meth c H locs cells slots 0 0 (F0 m pc ls st) rest (va_Qi post (fun u t => tw_End dC dI (va_A Y H.size) (Y1 u) t) (va_A Y H.size) a) (va_A Y H.size)) (hw : tw_Wd dC dI A s (X ++ Y) H locs) (hA : ∀ q, s.heap.size ≤ q → A q)
    (kk : ∀ (r : Int32) (u : S) (H1 : Heap) (locs1 : List Loc), post r u → tw_Wd dC dI A s (X ++ Y1 u) H1 locs1 → W p l e R s m args below meth c H1 locs1 cells slots Q (F0 m (pc + 3) ls (.int r :: rest))) : W p l e R s m args below meth c H locs cells slots Q (F0 m pc ls st) := by
  refine va_calli hr hw.2.2 (fun q _ h => tw_free hw hA q h) (tw_free hw hA) (fun r u t H1 locs1 ht hvm hp hB hz hk hS => ?_)
  obtain ⟨hP1, hD1⟩ := hB
  rw [ht] at hP1
  exact kk r u H1 locs1 hp (tw_join hw hA hk hP1 hD1 hS)
theorem tw_callv {S : Type} {post : S → Prop} {Y1 : S → va_W} {a : Array Value} (hr : va_Run p l e R s m args below meth c H locs cells slots 0 0 (F0 m pc ls st) rest (va_Qv post (fun u t => tw_End dC dI (va_A Y H.size) (Y1 u) t) (va_A Y H.size) a) (va_A Y H.size)) (hw : tw_Wd dC dI A s (X ++ Y) H locs) (hA : ∀ q, s.heap.size ≤ q → A q)
    (kk : ∀ (u : S) (H1 : Heap) (locs1 : List Loc), post u → tw_Wd dC dI A s (X ++ Y1 u) H1 locs1 → W p l e R s m args below meth c H1 locs1 cells slots Q (F0 m (pc + 3) ls rest)) : W p l e R s m args below meth c H locs cells slots Q (F0 m pc ls st) := by
  refine va_callv hr hw.2.2 (fun q _ h => tw_free hw hA q h) (tw_free hw hA) (fun u t H1 locs1 ht hvm hp hB hz hk hS => ?_)
  obtain ⟨hP1, hD1⟩ := hB
  rw [ht] at hP1
  exact kk u H1 locs1 hp (tw_join hw hA hk hP1 hD1 hS)
theorem tw_iret {S : Type} {post : Int32 → S → Prop} {Y1 : S → va_W} (u : S) {v : Int32} (hx : p.tables.exec = Jvm.exec) (hb : c.code = cc) (hr : meth.sig.returnType = some .int) (hlocks : meth.locks = false) (hw : tw_Wd dC dI A s (Y1 u) H locs) (hp : post v u) (d : decode cc pc = .ok (.ireturn, 1)) : W p l e R s m args below meth c H locs cells slots (MQ below (va_Qi post (fun u t => tw_End dC dI A (Y1 u) t) A) args s cells slots A) (F0 m pc ls [.int v]) :=
  W.iret (v := v) hx hb hr (fun t ht _ => ⟨⟨v, u, rfl, hp, by rw [ht]; exact hw.1, hw.2.1⟩, hw.2.2.F ht⟩) hw.2.2.2.2 d
theorem tw_vret {S : Type} {post : S → Prop} {Y1 : S → va_W} (u : S) (hx : p.tables.exec = Jvm.exec) (hb : c.code = cc) (hr : meth.sig.returnType = none) (hlocks : meth.locks = false) (hw : tw_Wd dC dI A s (Y1 u) H locs) (hp : post u) (d : decode cc pc = .ok (.return_, 1)) : W p l e R s m args below meth c H locs cells slots (MQ below (va_Qv post (fun u t => tw_End dC dI A (Y1 u) t) A) args s cells slots A) (F0 m pc ls []) :=
  W.vret hx hb hr (fun t ht _ => ⟨⟨u, rfl, hp, by rw [ht]; exact hw.1, hw.2.1⟩, hw.2.2.F ht⟩) hw.2.2.2.2 d
theorem tw_iald {a n k : Nat} {cA : ClassId} {f : Nat → Int32} (hx : p.tables.exec = Jvm.exec) (hb : c.code = cc) (hK : va_K (dC, dI) vwCl tys s) (hw : tw_Wd dC dI A s X H locs) (q0 t0 : Nat) (ha : X[q0]? = some (a, .inl (cA, n, .inl f))) (ht : tys[t0]? = some (cA, .int)) (hk : k < n) (hn : n < 2 ^ 31) (d : decode cc pc = .ok (.iaload, 1)) (kk : W p l e R s m args below meth c H locs cells slots Q (F0 m (pc + 1) ls (.int (f k) :: rest))) : W p l e R s m args below meth c H locs cells slots Q (F0 m pc ls (.int (nI k) :: .ref a :: rest)) :=
  va_iald hx hb hK hw.1 q0 t0 ha ht (vp_in_nI hk hn) d (by rw [nI_clamp (Nat.lt_trans hk hn)]; exact kk)
theorem tw_bald {a n k : Nat} {cA : ClassId} {f : Nat → Int32} (hx : p.tables.exec = Jvm.exec) (hb : c.code = cc) (hK : va_K (dC, dI) vwCl tys s) (hw : tw_Wd dC dI A s X H locs) (q0 t0 : Nat) (ha : X[q0]? = some (a, .inl (cA, n, .inl f))) (ht : tys[t0]? = some (cA, .byte)) (hk : k < n) (hn : n < 2 ^ 31) (d : decode cc pc = .ok (.baload, 1)) (kk : W p l e R s m args below meth c H locs cells slots Q (F0 m (pc + 1) ls (.int (f k) :: rest))) : W p l e R s m args below meth c H locs cells slots Q (F0 m pc ls (.int (nI k) :: .ref a :: rest)) :=
  va_bald hx hb hK hw.1 q0 t0 ha ht (vp_in_nI hk hn) d (by rw [nI_clamp (Nat.lt_trans hk hn)]; exact kk)
theorem tw_cald {a n k : Nat} {cA : ClassId} {f : Nat → Int32} (hx : p.tables.exec = Jvm.exec) (hb : c.code = cc) (hK : va_K (dC, dI) vwCl tys s) (hw : tw_Wd dC dI A s X H locs) (q0 t0 : Nat) (ha : X[q0]? = some (a, .inl (cA, n, .inl f))) (ht : tys[t0]? = some (cA, .char)) (hk : k < n) (hn : n < 2 ^ 31) (d : decode cc pc = .ok (.caload, 1)) (kk : W p l e R s m args below meth c H locs cells slots Q (F0 m (pc + 1) ls (.int (f k) :: rest))) : W p l e R s m args below meth c H locs cells slots Q (F0 m pc ls (.int (nI k) :: .ref a :: rest)) :=
  va_cald hx hb hK hw.1 q0 t0 ha ht (vp_in_nI hk hn) d (by rw [nI_clamp (Nat.lt_trans hk hn)]; exact kk)
theorem tw_iast {a n k : Nat} {cA : ClassId} {f : Nat → Int32} {x : Int32} {X1 : va_W} (hx : p.tables.exec = Jvm.exec) (hb : c.code = cc) (hK : va_K (dC, dI) vwCl tys s) (hw : tw_Wd dC dI A s X H locs) (q0 t0 : Nat) (ha : X[q0]? = some (a, .inl (cA, n, .inl f))) (ht : tys[t0]? = some (cA, .int)) (hk : k < n) (hn : n < 2 ^ 31) (hX : X.set q0 (a, .inl (cA, n, .inl (upd f k x))) = X1) (d : decode cc pc = .ok (.iastore, 1)) (kk : ∀ (H1 : Heap) (locs1 : List Loc), tw_Wd dC dI A s X1 H1 locs1 → W p l e R s m args below meth c H1 locs1 cells slots Q (F0 m (pc + 1) ls rest)) : W p l e R s m args below meth c H locs cells slots Q (F0 m pc ls (.int x :: .int (nI k) :: .ref a :: rest)) := by
  subst hX
  refine va_iast hx hb hK hw.1 hw.2.1 hw.2.2 q0 t0 ha ht (vp_in_nI hk hn) d (fun H1 locs1 h1 h2 h3 => ?_)
  rw [nI_clamp (Nat.lt_trans hk hn)] at h1 h2
  exact kk H1 locs1 ⟨h1, h2, h3⟩
/-- the byte v goes to the text's place k -/
theorem tw_bast {a n k v : Nat} {cA : ClassId} {b : Nat → Nat} {X1 : va_W} (hx : p.tables.exec = Jvm.exec) (hb : c.code = cc) (hK : va_K (dC, dI) vwCl tys s) (hw : tw_Wd dC dI A s X H locs) (q0 t0 : Nat) (ha : X[q0]? = some (a, .inl (cA, n, .inl (tw_tx b)))) (ht : tys[t0]? = some (cA, .byte)) (hk : k < n) (hn : n < 2 ^ 31) (hX : X.set q0 (a, .inl (cA, n, .inl (tw_tx (tw_up b k v)))) = X1) (d : decode cc pc = .ok (.bastore, 1)) (kk : ∀ (H1 : Heap) (locs1 : List Loc), tw_Wd dC dI A s X1 H1 locs1 → W p l e R s m args below meth c H1 locs1 cells slots Q (F0 m (pc + 1) ls rest)) : W p l e R s m args below meth c H locs cells slots Q (F0 m pc ls (.int (tw_sx v) :: .int (nI k) :: .ref a :: rest)) := by
  subst hX
  refine va_bast hx hb hK hw.1 hw.2.1 hw.2.2 q0 t0 ha ht (vp_in_nI hk hn) d (fun H1 locs1 h1 h2 h3 => ?_)
  rw [nI_clamp (Nat.lt_trans hk hn), tw_tx_up] at h1 h2
  exact kk H1 locs1 ⟨h1, h2, h3⟩
theorem tw_cast {a n k v : Nat} {cA : ClassId} {f : Nat → Int32} {X1 : va_W} (hx : p.tables.exec = Jvm.exec) (hb : c.code = cc) (hK : va_K (dC, dI) vwCl tys s) (hw : tw_Wd dC dI A s X H locs) (q0 t0 : Nat) (ha : X[q0]? = some (a, .inl (cA, n, .inl f))) (ht : tys[t0]? = some (cA, .char)) (hk : k < n) (hn : n < 2 ^ 31) (hv : v < 65536) (hX : X.set q0 (a, .inl (cA, n, .inl (upd f k (nI v)))) = X1) (d : decode cc pc = .ok (.castore, 1)) (kk : ∀ (H1 : Heap) (locs1 : List Loc), tw_Wd dC dI A s X1 H1 locs1 → W p l e R s m args below meth c H1 locs1 cells slots Q (F0 m (pc + 1) ls rest)) : W p l e R s m args below meth c H locs cells slots Q (F0 m pc ls (.int (nI v) :: .int (nI k) :: .ref a :: rest)) := by
  subst hX
  refine va_cast hx hb hK hw.1 hw.2.1 hw.2.2 q0 t0 ha ht (vp_in_nI hk hn) d (fun H1 locs1 h1 h2 h3 => ?_)
  have e1 : vp_nar .char (nI v) = nI v := by
    have h := pk_vc (nI v)
    rw [pk_char, pk_tn (by omega), Nat.mod_eq_of_lt hv] at h
    exact h
  rw [nI_clamp (Nat.lt_trans hk hn), e1] at h1 h2
  exact kk H1 locs1 ⟨h1, h2, h3⟩
theorem tw_alen {a n : Nat} {cA : ClassId} {x : (Nat → Int32) ⊕ (Nat → Int64) ⊕ (Nat → UInt32) ⊕ (Nat → UInt64) ⊕ (Nat → Option Nat)} {ty : FieldType} (hx : p.tables.exec = Jvm.exec) (hb : c.code = cc) (hK : va_K (dC, dI) vwCl tys s) (hw : tw_Wd dC dI A s X H locs) (q0 t0 : Nat) (ha : X[q0]? = some (a, .inl (cA, n, x))) (ht : tys[t0]? = some (cA, ty)) (d : decode cc pc = .ok (.arraylength, 1)) (kk : W p l e R s m args below meth c H locs cells slots Q (F0 m (pc + 1) ls (.int (nI n) :: rest))) : W p l e R s m args below meth c H locs cells slots Q (F0 m pc ls (.ref a :: rest)) :=
  va_alen hx hb hK hw.1 q0 t0 ha ht rfl d kk
end TW
end
section
/-! WireLetters: its methods, one contract each -/
set_option maxRecDepth 100000
theorem tw_bpb (x : Int32) : x.toInt8.toInt32 &&& 255 = x &&& 255 := by
  apply Int32.toBitVec_inj.1
  apply BitVec.eq_of_getLsbD_eq
  intro i hi
  have h255 : (255 : Int32).toBitVec.getLsbD i = decide (i < 8) := by
    have key : ∀ j, j < 32 → (255 : Int32).toBitVec.getLsbD j = decide (j < 8) := by decide +kernel
    exact key i hi
  rw [Int32.toBitVec_and, Int32.toBitVec_and, BitVec.getLsbD_and, BitVec.getLsbD_and, h255]
  by_cases h : i < 8
  · have e : (x.toInt8.toInt32).toBitVec.getLsbD i = x.toBitVec.getLsbD i := by
      rw [Int8.toBitVec_toInt32, Int32.toBitVec_toInt8]
      rw [BitVec.getLsbD_signExtend, BitVec.getLsbD_signExtend]
      simp [h, hi]
    rw [e]
  · simp [h]
theorem tw_i2b (x : Int32) : x.toInt8.toInt32 = tw_sx (x.toBitVec.toNat % 256) := by
  have h1 : (x.toInt8.toInt32).toInt8.toInt32 = x.toInt8.toInt32 := by
    have := pk_vb x
    rw [vp_nar_byte] at this
    exact this
  refine (sc_eq h1 (Nat.mod_lt _ (by decide))).2 ?_
  rw [tw_bpb]
  exact pk_and x 8 (by decide +kernel)
theorem n_inc1 {a r : Nat} (h : a + 1 = r) : nI a + Int32.ofInt 1 = nI r := by rw [← h]; exact nI_add a 1
theorem n_inc2 {a r : Nat} (h : a + 2 = r) : nI a + Int32.ofInt 2 = nI r := by rw [← h]; exact nI_add a 2
/-- the number of the lowest 21 bits -/
def tw_num (x : Int32) : Nat := x.toBitVec.toNat % 2097152
def tw_layB (b : Nat → Nat) (n : Nat) (x : Int32) : Nat → Nat := if n ≤ 1020 then tw_put b n (tw_utf (tw_num x)) else b
def tw_layN (n : Nat) (x : Int32) : Nat := if n ≤ 1020 then n + (tw_utf (tw_num x)).length else n
def tw_layR (n : Nat) (x : Int32) : Int32 := if n ≤ 1020 then nI (tw_layN n x) else -1
def tw_let (g : Nat → Int32) (rd : Int32) (i : Nat) : Int32 := if rd ≤ 0 then -1 else g (i % rd.toNatClampNeg)
set_option maxHeartbeats 4000000 in
set_option maxRecDepth 100000 in
/-- lay(x): the letter of the lowest 21 bits is laid behind the text, unless more than 1020 bytes lie there -/
theorem met_lay (l : Launch) (dC : Nat → ClassId) (dI : Nat → Nat → Nat) (dB dH : ClassId) (h t q sz : Nat) (b : Nat → Nat) (g : Nat → Int32) (n : Nat) (rd : Int32) (x : Int32) (hn : n ≤ 1024) : Met l yX1_lay (ws_ yX1_lay cX1_lay 3 (some .int)) ({ frames := 0, cells := 0, slots := 0, locals := 0 }) (va_Pc [.ref h, .int x] (tw_Pre dC dI [(dB, .byte), (dH, .char)] (tw_WL dB dH h t q b g n rd) sz)) (va_Qi (fun (r : Int32) (_ : Unit) => r = tw_layR n x) (fun _ T => tw_End dC dI (va_A (tw_WL dB dH h t q b g n rd) sz) (tw_WL dB dH h t q (tw_layB b n x) g (tw_layN n x) rd) T) (va_A (tw_WL dB dH h t q b g n rd) sz)) 0 0 (va_A (tw_WL dB dH h t q b g n rd) sz) := by
  refine Met.ofW (cc := cX1_lay) (maxL := 3) (ret := (some .int)) (by decide) rfl ?_
  intro p e s m args below meth c s₁ B hml hv
  obtain ⟨rfl, hsz, hP, hK, hD0, hT⟩ := hv
  have hx := B.exec
  have hb := B.bytes
  have hr := B.returns
  have hts := atoms_spec (ws := ws_ yX1_lay cX1_lay 3 (some .int)) B.pre
  have hts : ∀ w ∈ lw_all, w.before _ s = true := fun w h => hts w (List.mem_cons_of_mem _ h)
  have hown : s.vm.findClass RX1 = some m.cls := findClass_of_methodNamed B.named
  have hlocks := B.notSynchronized
  subst hsz
  have hD := hD0.self (sz := s.heap.size)
  have hA : ∀ q9 : Nat, s.heap.size ≤ q9 → va_A (tw_WL dB dH h t q b g n rd) s.heap.size q9 := fun q9 h9 => Or.inr h9
  generalize hAe : va_A (tw_WL dB dH h t q b g n rd) s.heap.size = A at hD hA hT ⊢
  have hw : tw_Wd dC dI A s (tw_WL dB dH h t q b g n rd) s.heap [] := ⟨hP, hD, va_S.rf⟩
  clear hP hD hD0
  have hl := lv_entry ([.ref h, .int x]) (n := 3) (Nat.le_of_ble_eq_true rfl)
  rw [lg_entry_eq]
  generalize (lg_sl ([.ref h, .int x]) ++ List.replicate (3 - (lg_sl ([.ref h, .int x])).length) Slot.unset).toArray = ls at hl ⊢
  have hl : lv_has ls 3 [(0, .ref h), (1, .int x)] := hl
  have hv : tw_num x < 2097152 := Nat.mod_lt _ (by decide)
  refine lv_aload_n hx hb dX1_lay_0 rfl (lv_at hl 0 rfl) ?_
  refine va_get (D := (dC, dI)) (ci := 0) (v := .int (nI n)) (C := RX1) (T := TX1) (N := 4) hx hb hts in_X1 hown hK hw.1 0 rfl rfl 2 (by decide) (hts _ q16) (fun _ h9 => h9) rfl dX1_lay_1 ?_
  refine lv_sipush (v := nI 1020) hx hb dX1_lay_4 (by decide +kernel) ?_
  refine n_icmp_le (tgt := 12) hx hb dX1_lay_7 (by decide) (by omega) (by omega) (fun c => ?_) (fun c => ?_)
  rotate_left
  · have e1 : tw_layB b n x = b := if_neg (by omega)
    have e2 : tw_layN n x = n := if_neg (by omega)
    have e3 : tw_layR n x = -1 := if_neg (by omega)
    refine lv_iconst (v := -1) hx hb dX1_lay_10 (by decide +kernel) ?_
    exact tw_iret (Y1 := fun _ => tw_WL dB dH h t q (tw_layB b n x) g (tw_layN n x) rd) () hx hb hr hlocks (by rw [e1, e2]; exact hw) (e3).symm dX1_lay_11
  have hc : n ≤ 1020 := c
  clear c
  refine lv_iload_n hx hb dX1_lay_12 rfl (lv_at hl 1 rfl) ?_
  refine lv_ldc (v := 2097151) hx hb hown (hts _ q34) dX1_lay_13 ?_
  refine n_top (y := (nI 2097151)) (by decide +kernel) ?_
  refine n_iand (r := tw_num x) hx hb dX1_lay_15 21 (by decide +kernel) rfl ?_
  refine lv_istore_n (lv' := [(2, .int (nI (tw_num x))), (0, .ref h), (1, .int x)]) hx hb dX1_lay_16 rfl hl (by decide) rfl (fun ls hl => ?_)
  refine lv_iload_n hx hb dX1_lay_17 rfl (lv_at hl 0 rfl) ?_
  refine lv_sipush (v := nI 128) hx hb dX1_lay_18 (by decide +kernel) ?_
  refine n_icmp_ge (tgt := 45) hx hb dX1_lay_21 (by decide) (by omega) (by omega) (fun c => ?_) (fun c => ?_)
  rotate_left
  · skip
    have eu := tw_utf_1 c
    refine lv_aload_n hx hb dX1_lay_24 rfl (lv_at hl 1 rfl) ?_
    refine va_get (D := (dC, dI)) (ci := 0) (v := .ref t) (C := RX1) (T := TX1) (N := 4) hx hb hts in_X1 hown hK hw.1 0 rfl rfl 0 (by decide) (hts _ q14) (fun _ h9 => h9) rfl dX1_lay_25 ?_
    refine lv_aload_n hx hb dX1_lay_28 rfl (lv_at hl 1 rfl) ?_
    refine lv_dup hx hb dX1_lay_29 rfl ?_
    refine va_get (D := (dC, dI)) (ci := 0) (v := .int (nI n)) (C := RX1) (T := TX1) (N := 4) hx hb hts in_X1 hown hK hw.1 0 rfl rfl 2 (by decide) (hts _ q16) (fun _ h9 => h9) rfl dX1_lay_30 ?_
    refine lv_dup_x1 hx hb dX1_lay_33 rfl rfl ?_
    refine lv_iconst (v := nI 1) hx hb dX1_lay_34 (by decide +kernel) ?_
    refine n_iadd (r := n + 1) hx hb dX1_lay_35 rfl ?_
    refine va_put (D := (dC, dI)) (ci := 0) (v := .int (nI (n + 1))) (ty := .int) (C := RX1) (T := TX1) (N := 4) hx hb hts in_X1 tyX1 tyX1_ok nmX1 hown hK hw.1 hw.2.1 hw.2.2 0 rfl rfl 2 (by decide) (hts _ q16) (fun _ h9 => h9) rfl (by decide +kernel) rfl rfl (Nat.le_of_ble_eq_true rfl) dX1_lay_36 (fun H locs hP hD hS => ?_)
    have hw : tw_Wd dC dI A s (tw_WL dB dH h t q b g (n + 1) rd) H locs := ⟨hP, hD, hS⟩
    refine lv_iload_n hx hb dX1_lay_39 rfl (lv_at hl 0 rfl) ?_
    refine lv_i2b (v := tw_sx (tw_num x)) hx hb dX1_lay_40 rfl ?_
    refine tw_bast (X1 := tw_WL dB dH h t q (tw_up b n (tw_num x)) g (n + 1) rd) hx hb hK hw 1 0 rfl rfl (by omega) (by decide) rfl dX1_lay_41 (fun H locs hw => ?_)
    refine lv_goto (tgt := 298) hx hb dX1_lay_42 (by decide) ?_
    refine lv_aload_n hx hb dX1_lay_298 rfl (lv_at hl 1 rfl) ?_
    refine va_get (D := (dC, dI)) (ci := 0) (v := .int (nI (n + 1))) (C := RX1) (T := TX1) (N := 4) hx hb hts in_X1 hown hK hw.1 0 rfl rfl 2 (by decide) (hts _ q16) (fun _ h9 => h9) rfl dX1_lay_299 ?_
    have e1 : tw_layB b n x = tw_up b n (tw_num x) := by unfold tw_layB; rw [if_pos hc, eu]; rfl
    have e2 : tw_layN n x = n + 1 := by unfold tw_layN; rw [if_pos hc, eu]; rfl
    have e3 : tw_layR n x = nI (n + 1) := by unfold tw_layR; rw [if_pos hc, e2]
    exact tw_iret (Y1 := fun _ => tw_WL dB dH h t q (tw_layB b n x) g (tw_layN n x) rd) () hx hb hr hlocks (by rw [e1, e2]; exact hw) (e3).symm dX1_lay_302
  refine lv_iload_n hx hb dX1_lay_45 rfl (lv_at hl 0 rfl) ?_
  refine lv_sipush (v := nI 2048) hx hb dX1_lay_46 (by decide +kernel) ?_
  have c128 : 128 ≤ tw_num x := c
  refine n_icmp_ge (tgt := 105) hx hb dX1_lay_49 (by decide) (by omega) (by omega) (fun c => ?_) (fun c => ?_)
  rotate_left
  · skip
    have eu := tw_utf_2 c128 c
    refine lv_aload_n hx hb dX1_lay_52 rfl (lv_at hl 1 rfl) ?_
    refine va_get (D := (dC, dI)) (ci := 0) (v := .ref t) (C := RX1) (T := TX1) (N := 4) hx hb hts in_X1 hown hK hw.1 0 rfl rfl 0 (by decide) (hts _ q14) (fun _ h9 => h9) rfl dX1_lay_53 ?_
    refine lv_aload_n hx hb dX1_lay_56 rfl (lv_at hl 1 rfl) ?_
    refine lv_dup hx hb dX1_lay_57 rfl ?_
    refine va_get (D := (dC, dI)) (ci := 0) (v := .int (nI n)) (C := RX1) (T := TX1) (N := 4) hx hb hts in_X1 hown hK hw.1 0 rfl rfl 2 (by decide) (hts _ q16) (fun _ h9 => h9) rfl dX1_lay_58 ?_
    refine lv_dup_x1 hx hb dX1_lay_61 rfl rfl ?_
    refine lv_iconst (v := nI 1) hx hb dX1_lay_62 (by decide +kernel) ?_
    refine n_iadd (r := n + 1) hx hb dX1_lay_63 rfl ?_
    refine va_put (D := (dC, dI)) (ci := 0) (v := .int (nI (n + 1))) (ty := .int) (C := RX1) (T := TX1) (N := 4) hx hb hts in_X1 tyX1 tyX1_ok nmX1 hown hK hw.1 hw.2.1 hw.2.2 0 rfl rfl 2 (by decide) (hts _ q16) (fun _ h9 => h9) rfl (by decide +kernel) rfl rfl (Nat.le_of_ble_eq_true rfl) dX1_lay_64 (fun H locs hP hD hS => ?_)
    have hw : tw_Wd dC dI A s (tw_WL dB dH h t q b g (n + 1) rd) H locs := ⟨hP, hD, hS⟩
    refine lv_sipush (v := nI 192) hx hb dX1_lay_67 (by decide +kernel) ?_
    refine lv_iload_n hx hb dX1_lay_70 rfl (lv_at hl 0 rfl) ?_
    refine lv_bipush (v := nI 6) hx hb dX1_lay_71 (by decide +kernel) ?_
    refine n_ishr (r := (tw_num x) / 64) hx hb dX1_lay_73 (by omega) (by decide) rfl ?_
    refine n_ior (r := 192 + tw_num x / 64) hx hb dX1_lay_74 (n_orK 6 (by decide) (by omega) rfl) ?_
    refine lv_i2b (v := tw_sx (192 + tw_num x / 64)) hx hb dX1_lay_75 rfl ?_
    refine tw_bast (X1 := tw_WL dB dH h t q (tw_up b n (192 + tw_num x / 64)) g (n + 1) rd) hx hb hK hw 1 0 rfl rfl (by omega) (by decide) rfl dX1_lay_76 (fun H locs hw => ?_)
    refine lv_aload_n hx hb dX1_lay_77 rfl (lv_at hl 1 rfl) ?_
    refine va_get (D := (dC, dI)) (ci := 0) (v := .ref t) (C := RX1) (T := TX1) (N := 4) hx hb hts in_X1 hown hK hw.1 0 rfl rfl 0 (by decide) (hts _ q14) (fun _ h9 => h9) rfl dX1_lay_78 ?_
    refine lv_aload_n hx hb dX1_lay_81 rfl (lv_at hl 1 rfl) ?_
    refine lv_dup hx hb dX1_lay_82 rfl ?_
    refine va_get (D := (dC, dI)) (ci := 0) (v := .int (nI (n + 1))) (C := RX1) (T := TX1) (N := 4) hx hb hts in_X1 hown hK hw.1 0 rfl rfl 2 (by decide) (hts _ q16) (fun _ h9 => h9) rfl dX1_lay_83 ?_
    refine lv_dup_x1 hx hb dX1_lay_86 rfl rfl ?_
    refine lv_iconst (v := nI 1) hx hb dX1_lay_87 (by decide +kernel) ?_
    refine n_iadd (r := n + 2) hx hb dX1_lay_88 rfl ?_
    refine va_put (D := (dC, dI)) (ci := 0) (v := .int (nI (n + 2))) (ty := .int) (C := RX1) (T := TX1) (N := 4) hx hb hts in_X1 tyX1 tyX1_ok nmX1 hown hK hw.1 hw.2.1 hw.2.2 0 rfl rfl 2 (by decide) (hts _ q16) (fun _ h9 => h9) rfl (by decide +kernel) rfl rfl (Nat.le_of_ble_eq_true rfl) dX1_lay_89 (fun H locs hP hD hS => ?_)
    have hw : tw_Wd dC dI A s (tw_WL dB dH h t q (tw_up b n (192 + tw_num x / 64)) g (n + 2) rd) H locs := ⟨hP, hD, hS⟩
    refine lv_sipush (v := nI 128) hx hb dX1_lay_92 (by decide +kernel) ?_
    refine lv_iload_n hx hb dX1_lay_95 rfl (lv_at hl 0 rfl) ?_
    refine lv_bipush (v := nI 63) hx hb dX1_lay_96 (by decide +kernel) ?_
    refine n_iandN (r := (tw_num x) % 64) hx hb dX1_lay_98 6 (by omega) (by decide +kernel) rfl ?_
    refine n_ior (r := 128 + tw_num x % 64) hx hb dX1_lay_99 (n_orK 6 (by decide) (by omega) rfl) ?_
    refine lv_i2b (v := tw_sx (128 + tw_num x % 64)) hx hb dX1_lay_100 rfl ?_
    refine tw_bast (X1 := tw_WL dB dH h t q (tw_up (tw_up b n (192 + tw_num x / 64)) (n + 1) (128 + tw_num x % 64)) g (n + 2) rd) hx hb hK hw 1 0 rfl rfl (by omega) (by decide) rfl dX1_lay_101 (fun H locs hw => ?_)
    refine lv_goto (tgt := 298) hx hb dX1_lay_102 (by decide) ?_
    refine lv_aload_n hx hb dX1_lay_298 rfl (lv_at hl 1 rfl) ?_
    refine va_get (D := (dC, dI)) (ci := 0) (v := .int (nI (n + 2))) (C := RX1) (T := TX1) (N := 4) hx hb hts in_X1 hown hK hw.1 0 rfl rfl 2 (by decide) (hts _ q16) (fun _ h9 => h9) rfl dX1_lay_299 ?_
    have e1 : tw_layB b n x = tw_up (tw_up b n (192 + tw_num x / 64)) (n + 1) (128 + tw_num x % 64) := by unfold tw_layB; rw [if_pos hc, eu]; rfl
    have e2 : tw_layN n x = n + 2 := by unfold tw_layN; rw [if_pos hc, eu]; rfl
    have e3 : tw_layR n x = nI (n + 2) := by unfold tw_layR; rw [if_pos hc, e2]
    exact tw_iret (Y1 := fun _ => tw_WL dB dH h t q (tw_layB b n x) g (tw_layN n x) rd) () hx hb hr hlocks (by rw [e1, e2]; exact hw) (e3).symm dX1_lay_302
  refine lv_iload_n hx hb dX1_lay_105 rfl (lv_at hl 0 rfl) ?_
  refine lv_ldc (v := 65536) hx hb hown (hts _ q35) dX1_lay_106 ?_
  refine n_top (y := (nI 65536)) (by decide +kernel) ?_
  have c2048 : 2048 ≤ tw_num x := c
  refine n_icmp_ge (tgt := 192) hx hb dX1_lay_108 (by decide) (by omega) (by omega) (fun c => ?_) (fun c => ?_)
  rotate_left
  · skip
    have eu := tw_utf_3 c2048 c
    refine lv_aload_n hx hb dX1_lay_111 rfl (lv_at hl 1 rfl) ?_
    refine va_get (D := (dC, dI)) (ci := 0) (v := .ref t) (C := RX1) (T := TX1) (N := 4) hx hb hts in_X1 hown hK hw.1 0 rfl rfl 0 (by decide) (hts _ q14) (fun _ h9 => h9) rfl dX1_lay_112 ?_
    refine lv_aload_n hx hb dX1_lay_115 rfl (lv_at hl 1 rfl) ?_
    refine lv_dup hx hb dX1_lay_116 rfl ?_
    refine va_get (D := (dC, dI)) (ci := 0) (v := .int (nI n)) (C := RX1) (T := TX1) (N := 4) hx hb hts in_X1 hown hK hw.1 0 rfl rfl 2 (by decide) (hts _ q16) (fun _ h9 => h9) rfl dX1_lay_117 ?_
    refine lv_dup_x1 hx hb dX1_lay_120 rfl rfl ?_
    refine lv_iconst (v := nI 1) hx hb dX1_lay_121 (by decide +kernel) ?_
    refine n_iadd (r := n + 1) hx hb dX1_lay_122 rfl ?_
    refine va_put (D := (dC, dI)) (ci := 0) (v := .int (nI (n + 1))) (ty := .int) (C := RX1) (T := TX1) (N := 4) hx hb hts in_X1 tyX1 tyX1_ok nmX1 hown hK hw.1 hw.2.1 hw.2.2 0 rfl rfl 2 (by decide) (hts _ q16) (fun _ h9 => h9) rfl (by decide +kernel) rfl rfl (Nat.le_of_ble_eq_true rfl) dX1_lay_123 (fun H locs hP hD hS => ?_)
    have hw : tw_Wd dC dI A s (tw_WL dB dH h t q b g (n + 1) rd) H locs := ⟨hP, hD, hS⟩
    refine lv_sipush (v := nI 224) hx hb dX1_lay_126 (by decide +kernel) ?_
    refine lv_iload_n hx hb dX1_lay_129 rfl (lv_at hl 0 rfl) ?_
    refine lv_bipush (v := nI 12) hx hb dX1_lay_130 (by decide +kernel) ?_
    refine n_ishr (r := (tw_num x) / 4096) hx hb dX1_lay_132 (by omega) (by decide) rfl ?_
    refine n_ior (r := 224 + tw_num x / 4096) hx hb dX1_lay_133 (n_orK 4 (by decide) (by omega) rfl) ?_
    refine lv_i2b (v := tw_sx (224 + tw_num x / 4096)) hx hb dX1_lay_134 rfl ?_
    refine tw_bast (X1 := tw_WL dB dH h t q (tw_up b n (224 + tw_num x / 4096)) g (n + 1) rd) hx hb hK hw 1 0 rfl rfl (by omega) (by decide) rfl dX1_lay_135 (fun H locs hw => ?_)
    refine lv_aload_n hx hb dX1_lay_136 rfl (lv_at hl 1 rfl) ?_
    refine va_get (D := (dC, dI)) (ci := 0) (v := .ref t) (C := RX1) (T := TX1) (N := 4) hx hb hts in_X1 hown hK hw.1 0 rfl rfl 0 (by decide) (hts _ q14) (fun _ h9 => h9) rfl dX1_lay_137 ?_
    refine lv_aload_n hx hb dX1_lay_140 rfl (lv_at hl 1 rfl) ?_
    refine lv_dup hx hb dX1_lay_141 rfl ?_
    refine va_get (D := (dC, dI)) (ci := 0) (v := .int (nI (n + 1))) (C := RX1) (T := TX1) (N := 4) hx hb hts in_X1 hown hK hw.1 0 rfl rfl 2 (by decide) (hts _ q16) (fun _ h9 => h9) rfl dX1_lay_142 ?_
    refine lv_dup_x1 hx hb dX1_lay_145 rfl rfl ?_
    refine lv_iconst (v := nI 1) hx hb dX1_lay_146 (by decide +kernel) ?_
    refine n_iadd (r := n + 2) hx hb dX1_lay_147 rfl ?_
    refine va_put (D := (dC, dI)) (ci := 0) (v := .int (nI (n + 2))) (ty := .int) (C := RX1) (T := TX1) (N := 4) hx hb hts in_X1 tyX1 tyX1_ok nmX1 hown hK hw.1 hw.2.1 hw.2.2 0 rfl rfl 2 (by decide) (hts _ q16) (fun _ h9 => h9) rfl (by decide +kernel) rfl rfl (Nat.le_of_ble_eq_true rfl) dX1_lay_148 (fun H locs hP hD hS => ?_)
    have hw : tw_Wd dC dI A s (tw_WL dB dH h t q (tw_up b n (224 + tw_num x / 4096)) g (n + 2) rd) H locs := ⟨hP, hD, hS⟩
    refine lv_sipush (v := nI 128) hx hb dX1_lay_151 (by decide +kernel) ?_
    refine lv_iload_n hx hb dX1_lay_154 rfl (lv_at hl 0 rfl) ?_
    refine lv_bipush (v := nI 6) hx hb dX1_lay_155 (by decide +kernel) ?_
    refine n_ishr (r := (tw_num x) / 64) hx hb dX1_lay_157 (by omega) (by decide) rfl ?_
    refine lv_bipush (v := nI 63) hx hb dX1_lay_158 (by decide +kernel) ?_
    refine n_iandN (r := ((tw_num x) / 64) % 64) hx hb dX1_lay_160 6 (by omega) (by decide +kernel) rfl ?_
    refine n_ior (r := 128 + tw_num x / 64 % 64) hx hb dX1_lay_161 (n_orK 6 (by decide) (by omega) rfl) ?_
    refine lv_i2b (v := tw_sx (128 + tw_num x / 64 % 64)) hx hb dX1_lay_162 rfl ?_
    refine tw_bast (X1 := tw_WL dB dH h t q (tw_up (tw_up b n (224 + tw_num x / 4096)) (n + 1) (128 + tw_num x / 64 % 64)) g (n + 2) rd) hx hb hK hw 1 0 rfl rfl (by omega) (by decide) rfl dX1_lay_163 (fun H locs hw => ?_)
    refine lv_aload_n hx hb dX1_lay_164 rfl (lv_at hl 1 rfl) ?_
    refine va_get (D := (dC, dI)) (ci := 0) (v := .ref t) (C := RX1) (T := TX1) (N := 4) hx hb hts in_X1 hown hK hw.1 0 rfl rfl 0 (by decide) (hts _ q14) (fun _ h9 => h9) rfl dX1_lay_165 ?_
    refine lv_aload_n hx hb dX1_lay_168 rfl (lv_at hl 1 rfl) ?_
    refine lv_dup hx hb dX1_lay_169 rfl ?_
    refine va_get (D := (dC, dI)) (ci := 0) (v := .int (nI (n + 2))) (C := RX1) (T := TX1) (N := 4) hx hb hts in_X1 hown hK hw.1 0 rfl rfl 2 (by decide) (hts _ q16) (fun _ h9 => h9) rfl dX1_lay_170 ?_
    refine lv_dup_x1 hx hb dX1_lay_173 rfl rfl ?_
    refine lv_iconst (v := nI 1) hx hb dX1_lay_174 (by decide +kernel) ?_
    refine n_iadd (r := n + 3) hx hb dX1_lay_175 rfl ?_
    refine va_put (D := (dC, dI)) (ci := 0) (v := .int (nI (n + 3))) (ty := .int) (C := RX1) (T := TX1) (N := 4) hx hb hts in_X1 tyX1 tyX1_ok nmX1 hown hK hw.1 hw.2.1 hw.2.2 0 rfl rfl 2 (by decide) (hts _ q16) (fun _ h9 => h9) rfl (by decide +kernel) rfl rfl (Nat.le_of_ble_eq_true rfl) dX1_lay_176 (fun H locs hP hD hS => ?_)
    have hw : tw_Wd dC dI A s (tw_WL dB dH h t q (tw_up (tw_up b n (224 + tw_num x / 4096)) (n + 1) (128 + tw_num x / 64 % 64)) g (n + 3) rd) H locs := ⟨hP, hD, hS⟩
    refine lv_sipush (v := nI 128) hx hb dX1_lay_179 (by decide +kernel) ?_
    refine lv_iload_n hx hb dX1_lay_182 rfl (lv_at hl 0 rfl) ?_
    refine lv_bipush (v := nI 63) hx hb dX1_lay_183 (by decide +kernel) ?_
    refine n_iandN (r := (tw_num x) % 64) hx hb dX1_lay_185 6 (by omega) (by decide +kernel) rfl ?_
    refine n_ior (r := 128 + tw_num x % 64) hx hb dX1_lay_186 (n_orK 6 (by decide) (by omega) rfl) ?_
    refine lv_i2b (v := tw_sx (128 + tw_num x % 64)) hx hb dX1_lay_187 rfl ?_
    refine tw_bast (X1 := tw_WL dB dH h t q (tw_up (tw_up (tw_up b n (224 + tw_num x / 4096)) (n + 1) (128 + tw_num x / 64 % 64)) (n + 2) (128 + tw_num x % 64)) g (n + 3) rd) hx hb hK hw 1 0 rfl rfl (by omega) (by decide) rfl dX1_lay_188 (fun H locs hw => ?_)
    refine lv_goto (tgt := 298) hx hb dX1_lay_189 (by decide) ?_
    refine lv_aload_n hx hb dX1_lay_298 rfl (lv_at hl 1 rfl) ?_
    refine va_get (D := (dC, dI)) (ci := 0) (v := .int (nI (n + 3))) (C := RX1) (T := TX1) (N := 4) hx hb hts in_X1 hown hK hw.1 0 rfl rfl 2 (by decide) (hts _ q16) (fun _ h9 => h9) rfl dX1_lay_299 ?_
    have e1 : tw_layB b n x = tw_up (tw_up (tw_up b n (224 + tw_num x / 4096)) (n + 1) (128 + tw_num x / 64 % 64)) (n + 2) (128 + tw_num x % 64) := by unfold tw_layB; rw [if_pos hc, eu]; rfl
    have e2 : tw_layN n x = n + 3 := by unfold tw_layN; rw [if_pos hc, eu]; rfl
    have e3 : tw_layR n x = nI (n + 3) := by unfold tw_layR; rw [if_pos hc, e2]
    exact tw_iret (Y1 := fun _ => tw_WL dB dH h t q (tw_layB b n x) g (tw_layN n x) rd) () hx hb hr hlocks (by rw [e1, e2]; exact hw) (e3).symm dX1_lay_302
  have c65536 : 65536 ≤ tw_num x := c
  have eu := tw_utf_4 c65536
  refine lv_aload_n hx hb dX1_lay_192 rfl (lv_at hl 1 rfl) ?_
  refine va_get (D := (dC, dI)) (ci := 0) (v := .ref t) (C := RX1) (T := TX1) (N := 4) hx hb hts in_X1 hown hK hw.1 0 rfl rfl 0 (by decide) (hts _ q14) (fun _ h9 => h9) rfl dX1_lay_193 ?_
  refine lv_aload_n hx hb dX1_lay_196 rfl (lv_at hl 1 rfl) ?_
  refine lv_dup hx hb dX1_lay_197 rfl ?_
  refine va_get (D := (dC, dI)) (ci := 0) (v := .int (nI n)) (C := RX1) (T := TX1) (N := 4) hx hb hts in_X1 hown hK hw.1 0 rfl rfl 2 (by decide) (hts _ q16) (fun _ h9 => h9) rfl dX1_lay_198 ?_
  refine lv_dup_x1 hx hb dX1_lay_201 rfl rfl ?_
  refine lv_iconst (v := nI 1) hx hb dX1_lay_202 (by decide +kernel) ?_
  refine n_iadd (r := n + 1) hx hb dX1_lay_203 rfl ?_
  refine va_put (D := (dC, dI)) (ci := 0) (v := .int (nI (n + 1))) (ty := .int) (C := RX1) (T := TX1) (N := 4) hx hb hts in_X1 tyX1 tyX1_ok nmX1 hown hK hw.1 hw.2.1 hw.2.2 0 rfl rfl 2 (by decide) (hts _ q16) (fun _ h9 => h9) rfl (by decide +kernel) rfl rfl (Nat.le_of_ble_eq_true rfl) dX1_lay_204 (fun H locs hP hD hS => ?_)
  have hw : tw_Wd dC dI A s (tw_WL dB dH h t q b g (n + 1) rd) H locs := ⟨hP, hD, hS⟩
  refine lv_sipush (v := nI 240) hx hb dX1_lay_207 (by decide +kernel) ?_
  refine lv_iload_n hx hb dX1_lay_210 rfl (lv_at hl 0 rfl) ?_
  refine lv_bipush (v := nI 18) hx hb dX1_lay_211 (by decide +kernel) ?_
  refine n_ishr (r := (tw_num x) / 262144) hx hb dX1_lay_213 (by omega) (by decide) rfl ?_
  refine n_ior (r := 240 + tw_num x / 262144) hx hb dX1_lay_214 (n_orK 4 (by decide) (by omega) rfl) ?_
  refine lv_i2b (v := tw_sx (240 + tw_num x / 262144)) hx hb dX1_lay_215 rfl ?_
  refine tw_bast (X1 := tw_WL dB dH h t q (tw_up b n (240 + tw_num x / 262144)) g (n + 1) rd) hx hb hK hw 1 0 rfl rfl (by omega) (by decide) rfl dX1_lay_216 (fun H locs hw => ?_)
  refine lv_aload_n hx hb dX1_lay_217 rfl (lv_at hl 1 rfl) ?_
  refine va_get (D := (dC, dI)) (ci := 0) (v := .ref t) (C := RX1) (T := TX1) (N := 4) hx hb hts in_X1 hown hK hw.1 0 rfl rfl 0 (by decide) (hts _ q14) (fun _ h9 => h9) rfl dX1_lay_218 ?_
  refine lv_aload_n hx hb dX1_lay_221 rfl (lv_at hl 1 rfl) ?_
  refine lv_dup hx hb dX1_lay_222 rfl ?_
  refine va_get (D := (dC, dI)) (ci := 0) (v := .int (nI (n + 1))) (C := RX1) (T := TX1) (N := 4) hx hb hts in_X1 hown hK hw.1 0 rfl rfl 2 (by decide) (hts _ q16) (fun _ h9 => h9) rfl dX1_lay_223 ?_
  refine lv_dup_x1 hx hb dX1_lay_226 rfl rfl ?_
  refine lv_iconst (v := nI 1) hx hb dX1_lay_227 (by decide +kernel) ?_
  refine n_iadd (r := n + 2) hx hb dX1_lay_228 rfl ?_
  refine va_put (D := (dC, dI)) (ci := 0) (v := .int (nI (n + 2))) (ty := .int) (C := RX1) (T := TX1) (N := 4) hx hb hts in_X1 tyX1 tyX1_ok nmX1 hown hK hw.1 hw.2.1 hw.2.2 0 rfl rfl 2 (by decide) (hts _ q16) (fun _ h9 => h9) rfl (by decide +kernel) rfl rfl (Nat.le_of_ble_eq_true rfl) dX1_lay_229 (fun H locs hP hD hS => ?_)
  have hw : tw_Wd dC dI A s (tw_WL dB dH h t q (tw_up b n (240 + tw_num x / 262144)) g (n + 2) rd) H locs := ⟨hP, hD, hS⟩
  refine lv_sipush (v := nI 128) hx hb dX1_lay_232 (by decide +kernel) ?_
  refine lv_iload_n hx hb dX1_lay_235 rfl (lv_at hl 0 rfl) ?_
  refine lv_bipush (v := nI 12) hx hb dX1_lay_236 (by decide +kernel) ?_
  refine n_ishr (r := (tw_num x) / 4096) hx hb dX1_lay_238 (by omega) (by decide) rfl ?_
  refine lv_bipush (v := nI 63) hx hb dX1_lay_239 (by decide +kernel) ?_
  refine n_iandN (r := ((tw_num x) / 4096) % 64) hx hb dX1_lay_241 6 (by omega) (by decide +kernel) rfl ?_
  refine n_ior (r := 128 + tw_num x / 4096 % 64) hx hb dX1_lay_242 (n_orK 6 (by decide) (by omega) rfl) ?_
  refine lv_i2b (v := tw_sx (128 + tw_num x / 4096 % 64)) hx hb dX1_lay_243 rfl ?_
  refine tw_bast (X1 := tw_WL dB dH h t q (tw_up (tw_up b n (240 + tw_num x / 262144)) (n + 1) (128 + tw_num x / 4096 % 64)) g (n + 2) rd) hx hb hK hw 1 0 rfl rfl (by omega) (by decide) rfl dX1_lay_244 (fun H locs hw => ?_)
  refine lv_aload_n hx hb dX1_lay_245 rfl (lv_at hl 1 rfl) ?_
  refine va_get (D := (dC, dI)) (ci := 0) (v := .ref t) (C := RX1) (T := TX1) (N := 4) hx hb hts in_X1 hown hK hw.1 0 rfl rfl 0 (by decide) (hts _ q14) (fun _ h9 => h9) rfl dX1_lay_246 ?_
  refine lv_aload_n hx hb dX1_lay_249 rfl (lv_at hl 1 rfl) ?_
  refine lv_dup hx hb dX1_lay_250 rfl ?_
  refine va_get (D := (dC, dI)) (ci := 0) (v := .int (nI (n + 2))) (C := RX1) (T := TX1) (N := 4) hx hb hts in_X1 hown hK hw.1 0 rfl rfl 2 (by decide) (hts _ q16) (fun _ h9 => h9) rfl dX1_lay_251 ?_
  refine lv_dup_x1 hx hb dX1_lay_254 rfl rfl ?_
  refine lv_iconst (v := nI 1) hx hb dX1_lay_255 (by decide +kernel) ?_
  refine n_iadd (r := n + 3) hx hb dX1_lay_256 rfl ?_
  refine va_put (D := (dC, dI)) (ci := 0) (v := .int (nI (n + 3))) (ty := .int) (C := RX1) (T := TX1) (N := 4) hx hb hts in_X1 tyX1 tyX1_ok nmX1 hown hK hw.1 hw.2.1 hw.2.2 0 rfl rfl 2 (by decide) (hts _ q16) (fun _ h9 => h9) rfl (by decide +kernel) rfl rfl (Nat.le_of_ble_eq_true rfl) dX1_lay_257 (fun H locs hP hD hS => ?_)
  have hw : tw_Wd dC dI A s (tw_WL dB dH h t q (tw_up (tw_up b n (240 + tw_num x / 262144)) (n + 1) (128 + tw_num x / 4096 % 64)) g (n + 3) rd) H locs := ⟨hP, hD, hS⟩
  refine lv_sipush (v := nI 128) hx hb dX1_lay_260 (by decide +kernel) ?_
  refine lv_iload_n hx hb dX1_lay_263 rfl (lv_at hl 0 rfl) ?_
  refine lv_bipush (v := nI 6) hx hb dX1_lay_264 (by decide +kernel) ?_
  refine n_ishr (r := (tw_num x) / 64) hx hb dX1_lay_266 (by omega) (by decide) rfl ?_
  refine lv_bipush (v := nI 63) hx hb dX1_lay_267 (by decide +kernel) ?_
  refine n_iandN (r := ((tw_num x) / 64) % 64) hx hb dX1_lay_269 6 (by omega) (by decide +kernel) rfl ?_
  refine n_ior (r := 128 + tw_num x / 64 % 64) hx hb dX1_lay_270 (n_orK 6 (by decide) (by omega) rfl) ?_
  refine lv_i2b (v := tw_sx (128 + tw_num x / 64 % 64)) hx hb dX1_lay_271 rfl ?_
  refine tw_bast (X1 := tw_WL dB dH h t q (tw_up (tw_up (tw_up b n (240 + tw_num x / 262144)) (n + 1) (128 + tw_num x / 4096 % 64)) (n + 2) (128 + tw_num x / 64 % 64)) g (n + 3) rd) hx hb hK hw 1 0 rfl rfl (by omega) (by decide) rfl dX1_lay_272 (fun H locs hw => ?_)
  refine lv_aload_n hx hb dX1_lay_273 rfl (lv_at hl 1 rfl) ?_
  refine va_get (D := (dC, dI)) (ci := 0) (v := .ref t) (C := RX1) (T := TX1) (N := 4) hx hb hts in_X1 hown hK hw.1 0 rfl rfl 0 (by decide) (hts _ q14) (fun _ h9 => h9) rfl dX1_lay_274 ?_
  refine lv_aload_n hx hb dX1_lay_277 rfl (lv_at hl 1 rfl) ?_
  refine lv_dup hx hb dX1_lay_278 rfl ?_
  refine va_get (D := (dC, dI)) (ci := 0) (v := .int (nI (n + 3))) (C := RX1) (T := TX1) (N := 4) hx hb hts in_X1 hown hK hw.1 0 rfl rfl 2 (by decide) (hts _ q16) (fun _ h9 => h9) rfl dX1_lay_279 ?_
  refine lv_dup_x1 hx hb dX1_lay_282 rfl rfl ?_
  refine lv_iconst (v := nI 1) hx hb dX1_lay_283 (by decide +kernel) ?_
  refine n_iadd (r := n + 4) hx hb dX1_lay_284 rfl ?_
  refine va_put (D := (dC, dI)) (ci := 0) (v := .int (nI (n + 4))) (ty := .int) (C := RX1) (T := TX1) (N := 4) hx hb hts in_X1 tyX1 tyX1_ok nmX1 hown hK hw.1 hw.2.1 hw.2.2 0 rfl rfl 2 (by decide) (hts _ q16) (fun _ h9 => h9) rfl (by decide +kernel) rfl rfl (Nat.le_of_ble_eq_true rfl) dX1_lay_285 (fun H locs hP hD hS => ?_)
  have hw : tw_Wd dC dI A s (tw_WL dB dH h t q (tw_up (tw_up (tw_up b n (240 + tw_num x / 262144)) (n + 1) (128 + tw_num x / 4096 % 64)) (n + 2) (128 + tw_num x / 64 % 64)) g (n + 4) rd) H locs := ⟨hP, hD, hS⟩
  refine lv_sipush (v := nI 128) hx hb dX1_lay_288 (by decide +kernel) ?_
  refine lv_iload_n hx hb dX1_lay_291 rfl (lv_at hl 0 rfl) ?_
  refine lv_bipush (v := nI 63) hx hb dX1_lay_292 (by decide +kernel) ?_
  refine n_iandN (r := (tw_num x) % 64) hx hb dX1_lay_294 6 (by omega) (by decide +kernel) rfl ?_
  refine n_ior (r := 128 + tw_num x % 64) hx hb dX1_lay_295 (n_orK 6 (by decide) (by omega) rfl) ?_
  refine lv_i2b (v := tw_sx (128 + tw_num x % 64)) hx hb dX1_lay_296 rfl ?_
  refine tw_bast (X1 := tw_WL dB dH h t q (tw_up (tw_up (tw_up (tw_up b n (240 + tw_num x / 262144)) (n + 1) (128 + tw_num x / 4096 % 64)) (n + 2) (128 + tw_num x / 64 % 64)) (n + 3) (128 + tw_num x % 64)) g (n + 4) rd) hx hb hK hw 1 0 rfl rfl (by omega) (by decide) rfl dX1_lay_297 (fun H locs hw => ?_)
  refine lv_aload_n hx hb dX1_lay_298 rfl (lv_at hl 1 rfl) ?_
  refine va_get (D := (dC, dI)) (ci := 0) (v := .int (nI (n + 4))) (C := RX1) (T := TX1) (N := 4) hx hb hts in_X1 hown hK hw.1 0 rfl rfl 2 (by decide) (hts _ q16) (fun _ h9 => h9) rfl dX1_lay_299 ?_
  have e1 : tw_layB b n x = tw_up (tw_up (tw_up (tw_up b n (240 + tw_num x / 262144)) (n + 1) (128 + tw_num x / 4096 % 64)) (n + 2) (128 + tw_num x / 64 % 64)) (n + 3) (128 + tw_num x % 64) := by unfold tw_layB; rw [if_pos hc, eu]; rfl
  have e2 : tw_layN n x = n + 4 := by unfold tw_layN; rw [if_pos hc, eu]; rfl
  have e3 : tw_layR n x = nI (n + 4) := by unfold tw_layR; rw [if_pos hc, e2]
  exact tw_iret (Y1 := fun _ => tw_WL dB dH h t q (tw_layB b n x) g (tw_layN n x) rd) () hx hb hr hlocks (by rw [e1, e2]; exact hw) (e3).symm dX1_lay_302
set_option maxHeartbeats 4000000 in
set_option maxRecDepth 100000 in
/-- spoil(at, x): the byte at the place at % n becomes the lowest eight bits of x -/
theorem met_spoil (l : Launch) (dC : Nat → ClassId) (dI : Nat → Nat → Nat) (dB dH : ClassId) (h t q sz : Nat) (b : Nat → Nat) (g : Nat → Int32) (n : Nat) (rd : Int32) (at0 : Nat) (x : Int32) (hn : n ≤ 1024) (h0 : 0 < n) (hat : at0 < 2 ^ 31) : Met l yX1_spoil (ws_ yX1_spoil cX1_spoil 3 none) ({ frames := 0, cells := 0, slots := 0, locals := 0 }) (va_Pc [.ref h, .int (nI at0), .int x] (tw_Pre dC dI [(dB, .byte), (dH, .char)] (tw_WL dB dH h t q b g n rd) sz)) (va_Qv (fun (_ : Unit) => True) (fun _ T => tw_End dC dI (va_A (tw_WL dB dH h t q b g n rd) sz) (tw_WL dB dH h t q (tw_up b (at0 % n) (x.toBitVec.toNat % 256)) g n rd) T) (va_A (tw_WL dB dH h t q b g n rd) sz)) 0 0 (va_A (tw_WL dB dH h t q b g n rd) sz) := by
  refine Met.ofW (cc := cX1_spoil) (maxL := 3) (ret := none) (by decide) rfl ?_
  intro p e s m args below meth c s₁ B hml hv
  obtain ⟨rfl, hsz, hP, hK, hD0, hT⟩ := hv
  have hx := B.exec
  have hb := B.bytes
  have hr := B.returns
  have hts := atoms_spec (ws := ws_ yX1_spoil cX1_spoil 3 none) B.pre
  have hts : ∀ w ∈ lw_all, w.before _ s = true := fun w h => hts w (List.mem_cons_of_mem _ h)
  have hown : s.vm.findClass RX1 = some m.cls := findClass_of_methodNamed B.named
  have hlocks := B.notSynchronized
  subst hsz
  have hD := hD0.self (sz := s.heap.size)
  have hA : ∀ q9 : Nat, s.heap.size ≤ q9 → va_A (tw_WL dB dH h t q b g n rd) s.heap.size q9 := fun q9 h9 => Or.inr h9
  generalize hAe : va_A (tw_WL dB dH h t q b g n rd) s.heap.size = A at hD hA hT ⊢
  have hw : tw_Wd dC dI A s (tw_WL dB dH h t q b g n rd) s.heap [] := ⟨hP, hD, va_S.rf⟩
  clear hP hD hD0
  have hl := lv_entry ([.ref h, .int (nI at0), .int x]) (n := 3) (Nat.le_of_ble_eq_true rfl)
  rw [lg_entry_eq]
  generalize (lg_sl ([.ref h, .int (nI at0), .int x]) ++ List.replicate (3 - (lg_sl ([.ref h, .int (nI at0), .int x])).length) Slot.unset).toArray = ls at hl ⊢
  have hl : lv_has ls 3 [(0, .ref h), (1, .int (nI at0)), (2, .int x)] := hl
  have hm := Nat.mod_lt at0 h0
  refine lv_aload_n hx hb dX1_spoil_0 rfl (lv_at hl 0 rfl) ?_
  refine va_get (D := (dC, dI)) (ci := 0) (v := .int (nI n)) (C := RX1) (T := TX1) (N := 4) hx hb hts in_X1 hown hK hw.1 0 rfl rfl 2 (by decide) (hts _ q16) (fun _ h9 => h9) rfl dX1_spoil_1 ?_
  refine lv_if_le (tgt := 23) hx hb dX1_spoil_4 (by decide) (fun c => absurd c (nI_nle h0 (by omega))) (fun _ => ?_)
  refine lv_aload_n hx hb dX1_spoil_7 rfl (lv_at hl 0 rfl) ?_
  refine va_get (D := (dC, dI)) (ci := 0) (v := .ref t) (C := RX1) (T := TX1) (N := 4) hx hb hts in_X1 hown hK hw.1 0 rfl rfl 0 (by decide) (hts _ q14) (fun _ h9 => h9) rfl dX1_spoil_8 ?_
  refine lv_iload_n hx hb dX1_spoil_11 rfl (lv_at hl 1 rfl) ?_
  refine lv_ldc (v := 2147483647) hx hb hown (hts _ q43) dX1_spoil_12 ?_
  refine n_top (y := (nI 2147483647)) (by decide +kernel) ?_
  refine n_iandN (r := at0) hx hb dX1_spoil_14 31 (by omega) (by decide +kernel) (Nat.mod_eq_of_lt hat) ?_
  refine lv_aload_n hx hb dX1_spoil_15 rfl (lv_at hl 0 rfl) ?_
  refine va_get (D := (dC, dI)) (ci := 0) (v := .int (nI n)) (C := RX1) (T := TX1) (N := 4) hx hb hts in_X1 hown hK hw.1 0 rfl rfl 2 (by decide) (hts _ q16) (fun _ h9 => h9) rfl dX1_spoil_16 ?_
  refine n_irem (r := at0 % n) hx hb dX1_spoil_19 hat h0 (by omega) rfl ?_
  refine lv_iload_n hx hb dX1_spoil_20 rfl (lv_at hl 2 rfl) ?_
  refine lv_i2b (v := tw_sx (x.toBitVec.toNat % 256)) hx hb dX1_spoil_21 (tw_i2b x) ?_
  refine tw_bast (X1 := tw_WL dB dH h t q (tw_up b (at0 % n) (x.toBitVec.toNat % 256)) g n rd) hx hb hK hw 1 0 rfl rfl (by omega) (by decide) rfl dX1_spoil_22 (fun H locs hw => ?_)
  exact tw_vret (Y1 := fun _ => tw_WL dB dH h t q (tw_up b (at0 % n) (x.toBitVec.toNat % 256)) g n rd) () hx hb hr hlocks hw trivial dX1_spoil_23
set_option maxHeartbeats 4000000 in
set_option maxRecDepth 100000 in
/-- cut(k): the text has k % (n + 1) bytes -/
theorem met_cut (l : Launch) (dC : Nat → ClassId) (dI : Nat → Nat → Nat) (dB dH : ClassId) (h t q sz : Nat) (b : Nat → Nat) (g : Nat → Int32) (n : Nat) (rd : Int32) (k : Nat) (hn : n ≤ 1024) (hk : k < 2 ^ 31) : Met l yX1_cut (ws_ yX1_cut cX1_cut 2 none) ({ frames := 0, cells := 0, slots := 0, locals := 0 }) (va_Pc [.ref h, .int (nI k)] (tw_Pre dC dI [(dB, .byte), (dH, .char)] (tw_WL dB dH h t q b g n rd) sz)) (va_Qv (fun (_ : Unit) => True) (fun _ T => tw_End dC dI (va_A (tw_WL dB dH h t q b g n rd) sz) (tw_WL dB dH h t q b g (k % (n + 1)) rd) T) (va_A (tw_WL dB dH h t q b g n rd) sz)) 0 0 (va_A (tw_WL dB dH h t q b g n rd) sz) := by
  refine Met.ofW (cc := cX1_cut) (maxL := 2) (ret := none) (by decide) rfl ?_
  intro p e s m args below meth c s₁ B hml hv
  obtain ⟨rfl, hsz, hP, hK, hD0, hT⟩ := hv
  have hx := B.exec
  have hb := B.bytes
  have hr := B.returns
  have hts := atoms_spec (ws := ws_ yX1_cut cX1_cut 2 none) B.pre
  have hts : ∀ w ∈ lw_all, w.before _ s = true := fun w h => hts w (List.mem_cons_of_mem _ h)
  have hown : s.vm.findClass RX1 = some m.cls := findClass_of_methodNamed B.named
  have hlocks := B.notSynchronized
  subst hsz
  have hD := hD0.self (sz := s.heap.size)
  have hA : ∀ q9 : Nat, s.heap.size ≤ q9 → va_A (tw_WL dB dH h t q b g n rd) s.heap.size q9 := fun q9 h9 => Or.inr h9
  generalize hAe : va_A (tw_WL dB dH h t q b g n rd) s.heap.size = A at hD hA hT ⊢
  have hw : tw_Wd dC dI A s (tw_WL dB dH h t q b g n rd) s.heap [] := ⟨hP, hD, va_S.rf⟩
  clear hP hD hD0
  have hl := lv_entry ([.ref h, .int (nI k)]) (n := 2) (Nat.le_of_ble_eq_true rfl)
  rw [lg_entry_eq]
  generalize (lg_sl ([.ref h, .int (nI k)]) ++ List.replicate (2 - (lg_sl ([.ref h, .int (nI k)])).length) Slot.unset).toArray = ls at hl ⊢
  have hl : lv_has ls 2 [(0, .ref h), (1, .int (nI k))] := hl
  refine lv_aload_n hx hb dX1_cut_0 rfl (lv_at hl 0 rfl) ?_
  refine lv_iload_n hx hb dX1_cut_1 rfl (lv_at hl 1 rfl) ?_
  refine lv_ldc (v := 2147483647) hx hb hown (hts _ q43) dX1_cut_2 ?_
  refine n_top (y := (nI 2147483647)) (by decide +kernel) ?_
  refine n_iandN (r := k) hx hb dX1_cut_4 31 (by omega) (by decide +kernel) (Nat.mod_eq_of_lt hk) ?_
  refine lv_aload_n hx hb dX1_cut_5 rfl (lv_at hl 0 rfl) ?_
  refine va_get (D := (dC, dI)) (ci := 0) (v := .int (nI n)) (C := RX1) (T := TX1) (N := 4) hx hb hts in_X1 hown hK hw.1 0 rfl rfl 2 (by decide) (hts _ q16) (fun _ h9 => h9) rfl dX1_cut_6 ?_
  refine lv_iconst (v := nI 1) hx hb dX1_cut_9 (by decide +kernel) ?_
  refine n_iadd (r := n + 1) hx hb dX1_cut_10 rfl ?_
  refine n_irem (r := k % (n + 1)) hx hb dX1_cut_11 hk (by omega) (by omega) rfl ?_
  refine va_put (D := (dC, dI)) (ci := 0) (v := .int (nI (k % (n + 1)))) (ty := .int) (C := RX1) (T := TX1) (N := 4) hx hb hts in_X1 tyX1 tyX1_ok nmX1 hown hK hw.1 hw.2.1 hw.2.2 0 rfl rfl 2 (by decide) (hts _ q16) (fun _ h9 => h9) rfl (by decide +kernel) rfl rfl (Nat.le_of_ble_eq_true rfl) dX1_cut_12 (fun H locs hP hD hS => ?_)
  have hw : tw_Wd dC dI A s (tw_WL dB dH h t q b g (k % (n + 1)) rd) H locs := ⟨hP, hD, hS⟩
  exact tw_vret (Y1 := fun _ => tw_WL dB dH h t q b g (k % (n + 1)) rd) () hx hb hr hlocks hw trivial dX1_cut_15
set_option maxHeartbeats 4000000 in
set_option maxRecDepth 100000 in
/-- size() -/
theorem met_size (l : Launch) (dC : Nat → ClassId) (dI : Nat → Nat → Nat) (dB dH : ClassId) (h t q sz : Nat) (b : Nat → Nat) (g : Nat → Int32) (n : Nat) (rd : Int32)  : Met l yX1_size (ws_ yX1_size cX1_size 1 (some .int)) ({ frames := 0, cells := 0, slots := 0, locals := 0 }) (va_Pc [.ref h] (tw_Pre dC dI [(dB, .byte), (dH, .char)] (tw_WL dB dH h t q b g n rd) sz)) (va_Qi (fun (r : Int32) (_ : Unit) => r = nI n) (fun _ T => tw_End dC dI (va_A (tw_WL dB dH h t q b g n rd) sz) (tw_WL dB dH h t q b g n rd) T) (va_A (tw_WL dB dH h t q b g n rd) sz)) 0 0 (va_A (tw_WL dB dH h t q b g n rd) sz) := by
  refine Met.ofW (cc := cX1_size) (maxL := 1) (ret := (some .int)) (by decide) rfl ?_
  intro p e s m args below meth c s₁ B hml hv
  obtain ⟨rfl, hsz, hP, hK, hD0, hT⟩ := hv
  have hx := B.exec
  have hb := B.bytes
  have hr := B.returns
  have hts := atoms_spec (ws := ws_ yX1_size cX1_size 1 (some .int)) B.pre
  have hts : ∀ w ∈ lw_all, w.before _ s = true := fun w h => hts w (List.mem_cons_of_mem _ h)
  have hown : s.vm.findClass RX1 = some m.cls := findClass_of_methodNamed B.named
  have hlocks := B.notSynchronized
  subst hsz
  have hD := hD0.self (sz := s.heap.size)
  have hA : ∀ q9 : Nat, s.heap.size ≤ q9 → va_A (tw_WL dB dH h t q b g n rd) s.heap.size q9 := fun q9 h9 => Or.inr h9
  generalize hAe : va_A (tw_WL dB dH h t q b g n rd) s.heap.size = A at hD hA hT ⊢
  have hw : tw_Wd dC dI A s (tw_WL dB dH h t q b g n rd) s.heap [] := ⟨hP, hD, va_S.rf⟩
  clear hP hD hD0
  have hl := lv_entry ([.ref h]) (n := 1) (Nat.le_of_ble_eq_true rfl)
  rw [lg_entry_eq]
  generalize (lg_sl ([.ref h]) ++ List.replicate (1 - (lg_sl ([.ref h])).length) Slot.unset).toArray = ls at hl ⊢
  have hl : lv_has ls 1 [(0, .ref h)] := hl
  refine lv_aload_n hx hb dX1_size_0 rfl (lv_at hl 0 rfl) ?_
  refine va_get (D := (dC, dI)) (ci := 0) (v := .int (nI n)) (C := RX1) (T := TX1) (N := 4) hx hb hts in_X1 hown hK hw.1 0 rfl rfl 2 (by decide) (hts _ q16) (fun _ h9 => h9) rfl dX1_size_1 ?_
  exact tw_iret (Y1 := fun _ => tw_WL dB dH h t q b g n rd) () hx hb hr hlocks hw rfl dX1_size_4
set_option maxHeartbeats 4000000 in
set_option maxRecDepth 100000 in
/-- letter(i): -1 where nothing was read, else the unit i % read -/
theorem met_letter (l : Launch) (dC : Nat → ClassId) (dI : Nat → Nat → Nat) (dB dH : ClassId) (h t q sz : Nat) (b : Nat → Nat) (g : Nat → Int32) (n : Nat) (rd : Int32) (i : Nat) (hi : i < 2 ^ 31) (hrd : rd = -1 ∨ ∃ k, k ≤ 1024 ∧ rd = nI k) : Met l yX1_letter (ws_ yX1_letter cX1_letter 2 (some .int)) ({ frames := 0, cells := 0, slots := 0, locals := 0 }) (va_Pc [.ref h, .int (nI i)] (tw_Pre dC dI [(dB, .byte), (dH, .char)] (tw_WL dB dH h t q b g n rd) sz)) (va_Qi (fun (r : Int32) (_ : Unit) => r = tw_let g rd i) (fun _ T => tw_End dC dI (va_A (tw_WL dB dH h t q b g n rd) sz) (tw_WL dB dH h t q b g n rd) T) (va_A (tw_WL dB dH h t q b g n rd) sz)) 0 0 (va_A (tw_WL dB dH h t q b g n rd) sz) := by
  refine Met.ofW (cc := cX1_letter) (maxL := 2) (ret := (some .int)) (by decide) rfl ?_
  intro p e s m args below meth c s₁ B hml hv
  obtain ⟨rfl, hsz, hP, hK, hD0, hT⟩ := hv
  have hx := B.exec
  have hb := B.bytes
  have hr := B.returns
  have hts := atoms_spec (ws := ws_ yX1_letter cX1_letter 2 (some .int)) B.pre
  have hts : ∀ w ∈ lw_all, w.before _ s = true := fun w h => hts w (List.mem_cons_of_mem _ h)
  have hown : s.vm.findClass RX1 = some m.cls := findClass_of_methodNamed B.named
  have hlocks := B.notSynchronized
  subst hsz
  have hD := hD0.self (sz := s.heap.size)
  have hA : ∀ q9 : Nat, s.heap.size ≤ q9 → va_A (tw_WL dB dH h t q b g n rd) s.heap.size q9 := fun q9 h9 => Or.inr h9
  generalize hAe : va_A (tw_WL dB dH h t q b g n rd) s.heap.size = A at hD hA hT ⊢
  have hw : tw_Wd dC dI A s (tw_WL dB dH h t q b g n rd) s.heap [] := ⟨hP, hD, va_S.rf⟩
  clear hP hD hD0
  have hl := lv_entry ([.ref h, .int (nI i)]) (n := 2) (Nat.le_of_ble_eq_true rfl)
  rw [lg_entry_eq]
  generalize (lg_sl ([.ref h, .int (nI i)]) ++ List.replicate (2 - (lg_sl ([.ref h, .int (nI i)])).length) Slot.unset).toArray = ls at hl ⊢
  have hl : lv_has ls 2 [(0, .ref h), (1, .int (nI i))] := hl
  refine lv_aload_n hx hb dX1_letter_0 rfl (lv_at hl 0 rfl) ?_
  refine va_get (D := (dC, dI)) (ci := 0) (v := .int rd) (C := RX1) (T := TX1) (N := 4) hx hb hts in_X1 hown hK hw.1 0 rfl rfl 3 (by decide) (hts _ q17) (fun _ h9 => h9) rfl dX1_letter_1 ?_
  refine lv_if_gt (tgt := 11) hx hb dX1_letter_4 (by decide) (fun c => ?_) (fun c => ?_)
  rotate_left
  · skip
    refine lv_iconst (v := -1) hx hb dX1_letter_7 (by decide +kernel) ?_
    refine lv_goto (tgt := 25) hx hb dX1_letter_8 (by decide) ?_
    have e1 : tw_let g rd i = -1 := if_pos (Int32.not_lt.mp c)
    exact tw_iret (Y1 := fun _ => tw_WL dB dH h t q b g n rd) () hx hb hr hlocks hw e1.symm dX1_letter_25
  obtain ⟨k, hk, rfl⟩ : ∃ k, k ≤ 1024 ∧ rd = nI k := by
    rcases hrd with rfl | q
    · exact absurd c (by decide)
    · exact q
  have h0 : 0 < k := by
    rcases Nat.eq_zero_or_pos k with rfl | q
    · exact absurd c (by decide)
    · exact q
  have hm := Nat.mod_lt i h0
  refine lv_aload_n hx hb dX1_letter_11 rfl (lv_at hl 0 rfl) ?_
  refine va_get (D := (dC, dI)) (ci := 0) (v := .ref q) (C := RX1) (T := TX1) (N := 4) hx hb hts in_X1 hown hK hw.1 0 rfl rfl 1 (by decide) (hts _ q15) (fun _ h9 => h9) rfl dX1_letter_12 ?_
  refine lv_iload_n hx hb dX1_letter_15 rfl (lv_at hl 1 rfl) ?_
  refine lv_ldc (v := 2147483647) hx hb hown (hts _ q43) dX1_letter_16 ?_
  refine n_top (y := (nI 2147483647)) (by decide +kernel) ?_
  refine n_iandN (r := i) hx hb dX1_letter_18 31 (by omega) (by decide +kernel) (Nat.mod_eq_of_lt hi) ?_
  refine lv_aload_n hx hb dX1_letter_19 rfl (lv_at hl 0 rfl) ?_
  refine va_get (D := (dC, dI)) (ci := 0) (v := .int (nI k)) (C := RX1) (T := TX1) (N := 4) hx hb hts in_X1 hown hK hw.1 0 rfl rfl 3 (by decide) (hts _ q17) (fun _ h9 => h9) rfl dX1_letter_20 ?_
  refine n_irem (r := i % k) hx hb dX1_letter_23 hi h0 (by omega) rfl ?_
  refine tw_cald hx hb hK hw 2 1 rfl rfl (by omega) (by decide) dX1_letter_24 ?_
  have e1 : tw_let g (nI k) i = g (i % k) := by unfold tw_let; rw [if_neg (nI_nle h0 (by omega)), nI_clamp (by omega)]
  exact tw_iret (Y1 := fun _ => tw_WL dB dH h t q b g n (nI k)) () hx hb hr hlocks hw e1.symm dX1_letter_25
theorem tw_zero (cA : ClassId) : vp_cell cA (1024, .inl (tw_tx (fun _ => 0))) = arrV cA 1024 (fun _ => defaultValue .byte) := by
  show arrV cA 1024 (fun _ => .int (tw_sx 0)) = _
  rw [show tw_sx 0 = 0 by decide +kernel]
  rfl
theorem tw_zeroC (cA : ClassId) : vp_cell cA (1024, .inl (fun _ => nI 0)) = arrV cA 1024 (fun _ => defaultValue .char) := rfl
/-- what the constructor leaves: two new arrays, nothing laid, nothing read -/
abbrev tw_NewEnd (dC : Nat → ClassId) (dI : Nat → Nat → Nat) (A : Nat → Prop) (h : Nat) (u : Nat × Nat × ClassId × ClassId) (T : State) : Prop := va_P (dC, dI) vwCl (tw_WL u.2.2.1 u.2.2.2 h u.1 u.2.1 (fun _ => 0) (fun _ => nI 0) 0 (nI 0)) T.heap ∧ va_K (dC, dI) vwCl [(u.2.2.1, .byte), (u.2.2.2, .char)] T ∧ va_D A (tw_WL u.2.2.1 u.2.2.2 h u.1 u.2.1 (fun _ => 0) (fun _ => nI 0) 0 (nI 0))
abbrev tw_New (h : Nat) : va_W := [(h, .inr (0, [.null, .null, .int (nI 0), .int (nI 0)]))]
set_option maxHeartbeats 4000000 in
set_option maxRecDepth 100000 in
/-- WireLetters(): text and letters are made -/
theorem met_init (l : Launch) (dC : Nat → ClassId) (dI : Nat → Nat → Nat) (h sz : Nat) : Met l yX1_init (ws_ yX1_init cX1_init 1 none) ({ frames := 1, cells := 2, slots := 2048, locals := 12 }) (va_Pc [.ref h] (tw_Pre dC dI [] (tw_New h) sz)) (va_Qv (fun (_ : Nat × Nat × ClassId × ClassId) => True) (fun u T => tw_NewEnd dC dI (va_A (tw_New h) sz) h u T) (va_A (tw_New h) sz)) 2 2048 (va_A (tw_New h) sz) := by
  refine Met.ofW (cc := cX1_init) (maxL := 1) (ret := none) (by decide) rfl ?_
  intro p e s m args below meth c s₁ B hml hv
  obtain ⟨rfl, hsz, hP, hK, hD0, hT⟩ := hv
  have hx := B.exec
  have hb := B.bytes
  have hr := B.returns
  have hts := atoms_spec (ws := ws_ yX1_init cX1_init 1 none) B.pre
  have hts : ∀ w ∈ lw_all, w.before _ s = true := fun w h => hts w (List.mem_cons_of_mem _ h)
  have hown : s.vm.findClass RX1 = some m.cls := findClass_of_methodNamed B.named
  have hlocks := B.notSynchronized
  have hin : meth.name = "<init>" := (name_of_methodNamed B.named B.method).1
  subst hsz
  have hD := hD0.self (sz := s.heap.size)
  have hA : ∀ q9 : Nat, s.heap.size ≤ q9 → va_A (tw_New h) s.heap.size q9 := fun q9 h9 => Or.inr h9
  generalize hAe : va_A (tw_New h) s.heap.size = A at hD hA hT ⊢
  have hS : va_S A s.heap s.heap [] := va_S.rf
  have hl := lv_entry ([.ref h]) (n := 1) (Nat.le_of_ble_eq_true rfl)
  rw [lg_entry_eq]
  generalize (lg_sl ([.ref h]) ++ List.replicate (1 - (lg_sl ([.ref h])).length) Slot.unset).toArray = ls at hl ⊢
  have hl : lv_has ls 1 [(0, .ref h)] := hl
  refine lv_aload_n hx hb dX1_init_0 rfl (lv_at hl 0 rfl) ?_
  refine W.objInit hx hb hown (hts _ q11) (hts _ q12) (hts _ q13) rfl (by rw [hml]; exact hl.1) rfl dX1_init_1 (Nat.le_of_ble_eq_true rfl) (Nat.le_of_ble_eq_true rfl) ?_
  refine W.eq (g2 := F0 m 4 ls []) rfl ?_
  refine lv_aload_n hx hb dX1_init_4 rfl (lv_at hl 0 rfl) ?_
  refine lv_sipush (v := nI 1024) hx hb dX1_init_5 (by decide +kernel) ?_
  refine va_newa (atype := .byte) (ty := .byte) (N' := 1024) (a0 := (1024, .inl (tw_tx (fun _ => 0)))) hx hb (hts _ q28) rfl hK hP hD hS hA tw_zero (by decide +kernel) (nI_clamp (by decide)) (Nat.le_of_ble_eq_true rfl) (Nat.le_of_ble_eq_true rfl) (Nat.le_of_ble_eq_true rfl) dX1_init_8 (fun t dB H hK hP hD hS => ?_)
  have hP : va_P (dC, dI) vwCl [(h, .inr (0, [.null, .null, .int (nI 0), .int (nI 0)])), (t, .inl (dB, 1024, .inl (tw_tx (fun _ => 0))))] H := hP
  have hD : va_D A [(h, .inr (0, [.null, .null, .int (nI 0), .int (nI 0)])), (t, .inl (dB, 1024, .inl (tw_tx (fun _ => 0))))] := hD
  refine va_putF (D := (dC, dI)) (ci := 0) (v := .ref t) (ty := .array .byte) (C := RX1) (T := TX1) (N := 4) hx hb hts in_X1 tyX1 tyX1_ok nmX1 hown hK hP hD hS 0 rfl rfl 0 (by decide) (hts _ q14) (fun _ h9 => h9) rfl hin rfl (by decide +kernel) rfl rfl (Nat.le_of_ble_eq_true rfl) dX1_init_10 (fun H locs hP hD hS => ?_)
  have hP : va_P (dC, dI) vwCl [(h, .inr (0, [.ref t, .null, .int (nI 0), .int (nI 0)])), (t, .inl (dB, 1024, .inl (tw_tx (fun _ => 0))))] H := hP
  have hD : va_D A [(h, .inr (0, [.ref t, .null, .int (nI 0), .int (nI 0)])), (t, .inl (dB, 1024, .inl (tw_tx (fun _ => 0))))] := hD
  refine lv_aload_n hx hb dX1_init_13 rfl (lv_at hl 0 rfl) ?_
  refine lv_sipush (v := nI 1024) hx hb dX1_init_14 (by decide +kernel) ?_
  refine va_newa (atype := .char) (ty := .char) (N' := 1024) (a0 := (1024, .inl (fun _ => nI 0))) hx hb (hts _ q29) rfl hK hP hD hS hA tw_zeroC (by decide +kernel) (nI_clamp (by decide)) (Nat.le_of_ble_eq_true rfl) (Nat.le_of_ble_eq_true rfl) (Nat.le_of_ble_eq_true rfl) dX1_init_17 (fun q dH H hK hP hD hS => ?_)
  have hP : va_P (dC, dI) vwCl [(h, .inr (0, [.ref t, .null, .int (nI 0), .int (nI 0)])), (t, .inl (dB, 1024, .inl (tw_tx (fun _ => 0)))), (q, .inl (dH, 1024, .inl (fun _ => nI 0)))] H := hP
  have hD : va_D A [(h, .inr (0, [.ref t, .null, .int (nI 0), .int (nI 0)])), (t, .inl (dB, 1024, .inl (tw_tx (fun _ => 0)))), (q, .inl (dH, 1024, .inl (fun _ => nI 0)))] := hD
  refine va_putF (D := (dC, dI)) (ci := 0) (v := .ref q) (ty := .array .char) (C := RX1) (T := TX1) (N := 4) hx hb hts in_X1 tyX1 tyX1_ok nmX1 hown hK hP hD hS 0 rfl rfl 1 (by decide) (hts _ q15) (fun _ h9 => h9) rfl hin rfl (by decide +kernel) rfl rfl (Nat.le_of_ble_eq_true rfl) dX1_init_19 (fun H locs hP hD hS => ?_)
  exact W.vret hx hb hr (fun T ht hW => ⟨⟨(t, q, dB, dH), rfl, trivial, by rw [ht]; exact hP, va_K.moved hW.alike hK, hD⟩, hS.F ht⟩) hS.2.2 dX1_init_22
end
section
/-! UTF8.transcodeToUTF16 -/
set_option maxRecDepth 100000
abbrev tw_BT (dB dH : ClassId) (t q : Nat) (b : Nat → Nat) (g : Nat → Int32) : va_W := [(t, .inl (dB, 1024, .inl (tw_tx b))), (q, .inl (dH, 1024, .inl g))]
theorem tw_v0_bd : ∀ x, x < 256 → 128 ≤ x → tw_more x ≠ 9 → (tw_more x = 3 ∧ tw_v0 x < 8) ∨ (tw_more x = 2 ∧ tw_v0 x < 512) ∨ (tw_more x = 1 ∧ tw_v0 x < 32768) := by decide +kernel
theorem tw_step_ascii {b : Nat → Nat} {i e : Nat} (h : b i < 128) (he : i < e) : tw_step b i e = some (b i, 1) := by
  have hm := tw_more_0 h
  unfold tw_step
  rw [hm, if_neg (by omega)]
  simp [tw_cs, tw_v0, hm]
theorem tw_tot {b : Nat → Nat} {e n i : Nat} {acc : List Nat} {q : Nat × Nat} {tot : Option (List Nat)} (h : i < e) (hs : tw_step b i e = some q) (ht : tot = (tw_us b e (n + 1) i).map (fun r => acc ++ r)) : tot = (tw_us b e n (i + q.2)).map (fun r => (acc ++ tw_enc q.1) ++ r) := by
  rw [ht, tw_us_some h hs, Option.map_map]
  congr 1
  funext r
  simp [List.append_assoc]
theorem tw_acc {g : Nat → Int32} {acc : List Nat} (h : ∀ k, k < acc.length → g k = nI (acc.getD k 0)) (x : Nat) : ∀ k, k < (acc ++ [x]).length → upd g acc.length (nI x) k = nI ((acc ++ [x]).getD k 0) := by
  intro k hk
  rw [List.length_append] at hk
  by_cases c : k = acc.length
  · subst c
    rw [pk_us]
    simp
  · have hk2 : k < acc.length := by simp at hk; omega
    rw [pk_un c, h k hk2]
    simp [List.getD_eq_getElem?_getD, List.getElem?_append_left hk2]
theorem tw_acc2 {g : Nat → Int32} {acc : List Nat} {j : Nat} (hj : acc.length = j) (h : ∀ k, k < acc.length → g k = nI (acc.getD k 0)) (x y : Nat) : ∀ k, k < (acc ++ [x, y]).length → upd (upd g j (nI x)) (j + 1) (nI y) k = nI ((acc ++ [x, y]).getD k 0) := by
  subst hj
  have h1 := tw_acc (tw_acc h x) y
  have e1 : (acc ++ [x]).length = acc.length + 1 := by simp
  have e2 : (acc ++ [x]) ++ [y] = acc ++ [x, y] := by simp
  rw [e1, e2] at h1
  exact h1
set_option maxHeartbeats 4000000 in
/-- the inner loop at its head in the state st: n bytes wanted, the next at i -/
theorem tc_inner {p : Program} {l : Launch} {e : Env} {R : Room} {s : State} {m : MethodId} {args : Array Value} {below : List Frame} {meth : Method} {c : Code} {cells slots : Nat} {Q : State → Prop} {dC : Nat → ClassId} {dI : Nat → Nat → Nat} {A : Nat → Prop} {dB dH : ClassId} {t q : Nat} {b : Nat → Nat}
  (hx : p.tables.exec = Jvm.exec) (hb : c.code = cX2_transcodeToUTF16) (hown : s.vm.findClass RX2 = some m.cls) (hts : ∀ w ∈ lw_all, w.before args s = true) (hK : va_K (dC, dI) vwCl [(dB, .byte), (dH, .char)] s) (hT : tw_TB A s s.heap) (hb6 : ∀ j, b j < 256) (e0 : Nat) (he : e0 ≤ 1024) {H : Heap} {locs : List Loc} {g : Nat → Int32} (hw : tw_Wd dC dI A s (tw_BT dB dH t q b g) H locs) (j : Nat) (o : Option (Nat × Nat))
  (kE : o = none → ∀ (pc : Nat) (ls : Array Slot), decode cX2_transcodeToUTF16 pc = .ok (.ireturn, 1) → W p l e R s m args below meth c H locs cells slots Q (F0 m pc ls [.int (-1)]))
  (kS : ∀ v i' : Nat, o = some (v, i') → v < 2097152 → ∀ ls : Array Slot, lv_has ls 11 [(0, .ref t), (3, .ref q), (4, .int (nI i')), (5, .int (nI j)), (6, .int (nI e0)), (9, .int (nI v))] → W p l e R s m args below meth c H locs cells slots Q (F0 m 142 ls [])) :
    ∀ (n st i cp : Nat), tw_ok n st → ((n = 3 ∧ cp < 8) ∨ (n = 2 ∧ cp < 512) ∨ (n = 1 ∧ cp < 32768)) → i ≤ 1024 → o = tw_inn b e0 n st i cp → ∀ (ls : Array Slot), lv_has ls 11 [(0, .ref t), (3, .ref q), (4, .int (nI i)), (5, .int (nI j)), (6, .int (nI e0)), (9, .int (nI cp)), (10, .int (nI st))] → W p l e R s m args below meth c H locs cells slots Q (F0 m 77 ls []) := by
  obtain ⟨t1, t2, z1, T1, z2, T2⟩ := hT
  intro n
  induction n with
  | zero => intro st i cp hok hbd; exact absurd hbd (by omega)
  | succ n ih =>
    intro st i cp hok hbd hi1 ho ls hl
    have hst := tw_ok_lt hok
    refine lv_iload hx hb dX2_transcodeToUTF16_77 (lv_at hl 6 rfl) ?_
    refine lv_if_lt (tgt := 133) hx hb dX2_transcodeToUTF16_79 (by decide) (fun c9 => absurd c9 (nI_pos (by omega))) (fun _ => ?_)
    refine lv_iload hx hb dX2_transcodeToUTF16_82 (lv_at hl 2 rfl) ?_
    refine lv_iload hx hb dX2_transcodeToUTF16_84 (lv_at hl 4 rfl) ?_
    refine n_icmp_lt (tgt := 91) hx hb dX2_transcodeToUTF16_86 (by decide) (by omega) (by omega) (fun c9 => ?_) (fun c9 => ?_)
    rotate_left
    · refine lv_iconst (v := -1) hx hb dX2_transcodeToUTF16_89 (by decide +kernel) ?_
      exact kE (by rw [ho]; exact if_pos c9) 90 ls dX2_transcodeToUTF16_90
    have hy := hb6 i
    have hy2 := tw_sx_tn (b i) hy
    refine lv_aload_n hx hb dX2_transcodeToUTF16_91 rfl (lv_at hl 0 rfl) ?_
    refine lv_iload hx hb dX2_transcodeToUTF16_92 (lv_at hl 2 rfl) ?_
    refine lv_iinc (lv' := [(4, .int (nI (i + 1))), (0, .ref t), (3, .ref q), (5, .int (nI j)), (6, .int (nI e0)), (9, .int (nI cp)), (10, .int (nI st))]) (k := 2) hx hb dX2_transcodeToUTF16_94 hl rfl (n_inc1 rfl) (by decide) rfl (fun ls hl => ?_)
    refine tw_bald hx hb hK hw 0 0 rfl rfl (by omega) (by decide) dX2_transcodeToUTF16_97 ?_
    refine n_top (y := tw_sx (b i)) rfl ?_
    refine lv_istore (lv' := [(7, .int (tw_sx (b i))), (4, .int (nI (i + 1))), (0, .ref t), (3, .ref q), (5, .int (nI j)), (6, .int (nI e0)), (9, .int (nI cp)), (10, .int (nI st))]) hx hb dX2_transcodeToUTF16_98 hl (by decide) rfl (fun ls hl => ?_)
    refine lv_iload hx hb dX2_transcodeToUTF16_100 (lv_at hl 6 rfl) ?_
    refine lv_bipush (v := nI 6) hx hb dX2_transcodeToUTF16_102 (by decide +kernel) ?_
    refine n_ishl (r := cp * 64) hx hb dX2_transcodeToUTF16_104 (by decide) (by omega) rfl ?_
    refine lv_iload hx hb dX2_transcodeToUTF16_105 (lv_at hl 0 rfl) ?_
    refine lv_bipush (v := nI 63) hx hb dX2_transcodeToUTF16_107 (by decide +kernel) ?_
    refine n_iand (r := b i % 64) hx hb dX2_transcodeToUTF16_109 6 (by decide +kernel) (by omega) ?_
    refine n_ior (r := cp * 64 + b i % 64) hx hb dX2_transcodeToUTF16_110 (n_orK 6 (by omega) (by omega) rfl) ?_
    refine lv_istore (lv' := [(9, .int (nI (cp * 64 + b i % 64))), (7, .int (tw_sx (b i))), (4, .int (nI (i + 1))), (0, .ref t), (3, .ref q), (5, .int (nI j)), (6, .int (nI e0)), (10, .int (nI st))]) hx hb dX2_transcodeToUTF16_111 hl (by decide) rfl (fun ls hl => ?_)
    refine va_gets hx hb (C := "UTF8") (n := "transitionTable") (d := "[B") (own := RX2) (ref := "UTF8") z2 hw.2.2 hown (hts _ q59) (fun _ h9 => h9) dX2_transcodeToUTF16_113 ?_
    refine lv_iload hx hb dX2_transcodeToUTF16_116 (lv_at hl 7 rfl) ?_
    refine lv_iload hx hb dX2_transcodeToUTF16_118 (lv_at hl 1 rfl) ?_
    refine lv_sipush (v := nI 255) hx hb dX2_transcodeToUTF16_120 (by decide +kernel) ?_
    refine n_iand (r := b i) hx hb dX2_transcodeToUTF16_123 8 (by decide +kernel) (by omega) ?_
    refine lv_iconst (v := nI 4) hx hb dX2_transcodeToUTF16_124 (by decide +kernel) ?_
    refine n_iushr (r := (b i) / 16) hx hb dX2_transcodeToUTF16_125 (by omega) (by decide) rfl ?_
    refine n_iadd (r := st + ((b i) / 16)) hx hb dX2_transcodeToUTF16_126 rfl ?_
    refine va_tb (v := .int (tw_TR (st + b i / 16))) hx hb T2 hw.2.2 (vp_in_nI (by omega) (by decide)) (by rw [nI_clamp (by omega)]) dX2_transcodeToUTF16_127 ?_
    refine n_top (tw_TR_ok hok hy) ?_
    have ho : o = if b i < tw_slo st ∨ tw_shi st < b i then none else if n = 0 then some (cp * 64 + b i % 64, i + 1) else tw_inn b e0 n (tw_nx st) (i + 1) (cp * 64 + b i % 64) := by rw [ho]; exact if_neg (by omega)
    by_cases c1 : b i < tw_slo st ∨ tw_shi st < b i
    · rw [if_pos c1] at ho ⊢
      refine lv_istore (lv' := [(10, .int (-2)), (9, .int (nI (cp * 64 + b i % 64))), (7, .int (tw_sx (b i))), (4, .int (nI (i + 1))), (0, .ref t), (3, .ref q), (5, .int (nI j)), (6, .int (nI e0))]) hx hb dX2_transcodeToUTF16_128 hl (by decide) rfl (fun ls hl => ?_)
      refine lv_goto (tgt := 77) hx hb dX2_transcodeToUTF16_130 (by decide) ?_
      refine lv_iload hx hb dX2_transcodeToUTF16_77 (lv_at hl 0 rfl) ?_
      refine lv_if_lt (tgt := 133) hx hb dX2_transcodeToUTF16_79 (by decide) (fun _ => ?_) (fun c9 => absurd (by decide) c9)
      refine lv_iload hx hb dX2_transcodeToUTF16_133 (lv_at hl 0 rfl) ?_
      refine lv_bipush (v := -2) hx hb dX2_transcodeToUTF16_135 (by decide +kernel) ?_
      refine n_neF (tgt := 142) hx hb dX2_transcodeToUTF16_137 (by decide) rfl ?_
      refine lv_iconst (v := -1) hx hb dX2_transcodeToUTF16_140 (by decide +kernel) ?_
      exact kE ho 141 _ dX2_transcodeToUTF16_141
    · rw [if_neg c1] at ho ⊢
      by_cases c2 : n = 0
      · rw [if_pos c2] at ho ⊢
        refine lv_istore (lv' := [(10, .int (-1)), (9, .int (nI (cp * 64 + b i % 64))), (7, .int (tw_sx (b i))), (4, .int (nI (i + 1))), (0, .ref t), (3, .ref q), (5, .int (nI j)), (6, .int (nI e0))]) hx hb dX2_transcodeToUTF16_128 hl (by decide) rfl (fun ls hl => ?_)
        refine lv_goto (tgt := 77) hx hb dX2_transcodeToUTF16_130 (by decide) ?_
        refine lv_iload hx hb dX2_transcodeToUTF16_77 (lv_at hl 0 rfl) ?_
        refine lv_if_lt (tgt := 133) hx hb dX2_transcodeToUTF16_79 (by decide) (fun _ => ?_) (fun c9 => absurd (by decide) c9)
        refine lv_iload hx hb dX2_transcodeToUTF16_133 (lv_at hl 0 rfl) ?_
        refine lv_bipush (v := -2) hx hb dX2_transcodeToUTF16_135 (by decide +kernel) ?_
        refine lv_icmp_ne (tgt := 142) hx hb dX2_transcodeToUTF16_137 (by decide) (fun _ => ?_) (fun c9 => absurd c9 (by decide))
        have hl : lv_has ls 11 [(0, .ref t), (3, .ref q), (4, .int (nI (i + 1))), (5, .int (nI j)), (6, .int (nI e0)), (9, .int (nI (cp * 64 + b i % 64)))] := lv_sub hl [4, 5, 3, 6, 7, 1] rfl
        exact kS _ _ ho (by omega) ls hl
      · rw [if_neg c2] at ho ⊢
        refine lv_istore (lv' := [(10, .int (nI (tw_nx st))), (9, .int (nI (cp * 64 + b i % 64))), (7, .int (tw_sx (b i))), (4, .int (nI (i + 1))), (0, .ref t), (3, .ref q), (5, .int (nI j)), (6, .int (nI e0))]) hx hb dX2_transcodeToUTF16_128 hl (by decide) rfl (fun ls hl => ?_)
        refine lv_goto (tgt := 77) hx hb dX2_transcodeToUTF16_130 (by decide) ?_
        have hl : lv_has ls 11 [(0, .ref t), (3, .ref q), (4, .int (nI (i + 1))), (5, .int (nI j)), (6, .int (nI e0)), (9, .int (nI (cp * 64 + b i % 64))), (10, .int (nI (tw_nx st)))] := lv_sub hl [4, 5, 3, 6, 7, 1, 0] rfl
        exact ih (tw_nx st) (i + 1) (cp * 64 + b i % 64) (tw_ok_nx hok c2) (by omega) (by omega) ho ls hl
set_option maxHeartbeats 8000000 in
/-- the outer loop at its head: acc is written, the next byte is i -/
theorem tc_outer {p : Program} {l : Launch} {e : Env} {R : Room} {s : State} {m : MethodId} {args : Array Value} {below : List Frame} {meth : Method} {c : Code} {cells slots : Nat} {Q : State → Prop} {dC : Nat → ClassId} {dI : Nat → Nat → Nat} {A : Nat → Prop} {dB dH : ClassId} {t q : Nat} {b : Nat → Nat}
  (hx : p.tables.exec = Jvm.exec) (hb : c.code = cX2_transcodeToUTF16) (hown : s.vm.findClass RX2 = some m.cls) (hts : ∀ w ∈ lw_all, w.before args s = true) (hK : va_K (dC, dI) vwCl [(dB, .byte), (dH, .char)] s) (hT : tw_TB A s s.heap) (hb6 : ∀ j, b j < 256) (e0 : Nat) (he : e0 ≤ 1024) (i0 : Nat) (tot : Option (List Nat))
  (kR : ∀ (pc : Nat) (ls : Array Slot) (H : Heap) (locs : List Loc) (r : Int32) (g' : Nat → Int32), decode cX2_transcodeToUTF16 pc = .ok (.ireturn, 1) → tw_Wd dC dI A s (tw_BT dB dH t q b g') H locs → tw_out tot r g' → W p l e R s m args below meth c H locs cells slots Q (F0 m pc ls [.int r])) :
    ∀ (n i j : Nat) (acc : List Nat) (g : Nat → Int32) (H : Heap) (locs : List Loc) (ls : Array Slot), e0 ≤ i + n → i ≤ 1024 → acc.length = j → j + i0 ≤ i → (∀ k, k < acc.length → g k = nI (acc.getD k 0)) → tot = (tw_us b e0 n i).map (fun r => acc ++ r) → tw_Wd dC dI A s (tw_BT dB dH t q b g) H locs → lv_has ls 11 [(0, .ref t), (3, .ref q), (4, .int (nI i)), (5, .int (nI j)), (6, .int (nI e0))] → W p l e R s m args below meth c H locs cells slots Q (F0 m 11 ls []) := by
  have hT0 := hT
  obtain ⟨t1, t2, z1, T1, z2, T2⟩ := hT
  intro n
  induction n with
  | zero =>
    intro i j acc g H locs ls hin hi1 hj hji hacc htot hw hl
    refine lv_iload hx hb dX2_transcodeToUTF16_11 (lv_at hl 2 rfl) ?_
    refine lv_iload hx hb dX2_transcodeToUTF16_13 (lv_at hl 4 rfl) ?_
    refine n_icmp_ge (tgt := 218) hx hb dX2_transcodeToUTF16_15 (by decide) (by omega) (by omega) (fun c9 => ?_) (fun c9 => absurd c9 (by omega))
    refine lv_iload hx hb dX2_transcodeToUTF16_218 (lv_at hl 3 rfl) ?_
    refine kR 220 ls H locs _ g dX2_transcodeToUTF16_220 hw ?_
    rw [htot, tw_us_end (by omega)]
    show nI j = nI (acc ++ []).length ∧ ∀ k, k < (acc ++ []).length → g k = nI ((acc ++ []).getD k 0)
    rw [List.append_nil, hj]
    exact ⟨rfl, fun k hk => hacc k (by omega)⟩
  | succ n ih =>
    intro i j acc g H locs ls hin hi1 hj hji hacc htot hw hl
    refine lv_iload hx hb dX2_transcodeToUTF16_11 (lv_at hl 2 rfl) ?_
    refine lv_iload hx hb dX2_transcodeToUTF16_13 (lv_at hl 4 rfl) ?_
    refine n_icmp_ge (tgt := 218) hx hb dX2_transcodeToUTF16_15 (by decide) (by omega) (by omega) (fun c9 => ?_) (fun c9 => ?_)
    · skip
      refine lv_iload hx hb dX2_transcodeToUTF16_218 (lv_at hl 3 rfl) ?_
      refine kR 220 ls H locs _ g dX2_transcodeToUTF16_220 hw ?_
      rw [htot, tw_us_end (by omega)]
      show nI j = nI (acc ++ []).length ∧ ∀ k, k < (acc ++ []).length → g k = nI ((acc ++ []).getD k 0)
      rw [List.append_nil, hj]
      exact ⟨rfl, fun k hk => hacc k (by omega)⟩
    have hy := hb6 i
    have hy2 := tw_sx_tn (b i) hy
    refine lv_aload_n hx hb dX2_transcodeToUTF16_18 rfl (lv_at hl 0 rfl) ?_
    refine lv_iload hx hb dX2_transcodeToUTF16_19 (lv_at hl 2 rfl) ?_
    refine lv_iinc (lv' := [(4, .int (nI (i + 1))), (0, .ref t), (3, .ref q), (5, .int (nI j)), (6, .int (nI e0))]) (k := 2) hx hb dX2_transcodeToUTF16_21 hl rfl (n_inc1 rfl) (by decide) rfl (fun ls hl => ?_)
    refine tw_bald hx hb hK hw 0 0 rfl rfl (by omega) (by decide) dX2_transcodeToUTF16_24 ?_
    refine n_top (y := tw_sx (b i)) rfl ?_
    refine lv_istore (lv' := [(7, .int (tw_sx (b i))), (4, .int (nI (i + 1))), (0, .ref t), (3, .ref q), (5, .int (nI j)), (6, .int (nI e0))]) hx hb dX2_transcodeToUTF16_25 hl (by decide) rfl (fun ls hl => ?_)
    refine lv_iload hx hb dX2_transcodeToUTF16_27 (lv_at hl 0 rfl) ?_
    have htn : tw_step b i e0 = none → tot = none := fun h => by rw [htot, tw_us_none c9 h]; rfl
    refine lv_if_lt (tgt := 54) hx hb dX2_transcodeToUTF16_29 (by decide) (fun c8 => ?_) (fun c8 => ?_)
    rotate_left
    · have c7 : b i < 128 := Nat.lt_of_not_le (fun h => c8 (tw_sx_neg (b i) hy h))
      refine lv_iload hx hb dX2_transcodeToUTF16_32 (lv_at hl 4 rfl) ?_
      refine lv_aload_n hx hb dX2_transcodeToUTF16_34 rfl (lv_at hl 3 rfl) ?_
      refine tw_alen hx hb hK hw 1 1 rfl rfl dX2_transcodeToUTF16_35 ?_
      refine n_icmp_lt (tgt := 41) hx hb dX2_transcodeToUTF16_36 (by decide) (by omega) (by omega) (fun _ => ?_) (fun c6 => absurd c6 (by omega))
      refine lv_aload_n hx hb dX2_transcodeToUTF16_41 rfl (lv_at hl 3 rfl) ?_
      refine lv_iload hx hb dX2_transcodeToUTF16_42 (lv_at hl 4 rfl) ?_
      refine lv_iinc (lv' := [(5, .int (nI (j + 1))), (7, .int (tw_sx (b i))), (4, .int (nI (i + 1))), (0, .ref t), (3, .ref q), (6, .int (nI e0))]) (k := 4) hx hb dX2_transcodeToUTF16_44 hl rfl (n_inc1 rfl) (by decide) rfl (fun ls hl => ?_)
      refine lv_iload hx hb dX2_transcodeToUTF16_47 (lv_at hl 1 rfl) ?_
      refine n_top (y := (nI (b i))) (tw_sx_lo (b i) c7) ?_
      refine n_i2c hx hb dX2_transcodeToUTF16_49 (by omega) ?_
      refine tw_cast (X1 := tw_BT dB dH t q b (upd g j (nI (b i)))) hx hb hK hw 1 1 rfl rfl (by omega) (by decide) (by omega) rfl dX2_transcodeToUTF16_50 (fun H locs hw => ?_)
      refine lv_goto (tgt := 11) hx hb dX2_transcodeToUTF16_51 (by decide) ?_
      have hs : tw_step b i e0 = some (b i, 1) := tw_step_ascii c7 c9
      have hl : lv_has ls 11 [(0, .ref t), (3, .ref q), (4, .int (nI (i + 1))), (5, .int (nI (j + 1))), (6, .int (nI e0))] := lv_sub hl [3, 4, 2, 0, 5] rfl
      refine ih (i + 1) (j + 1) (acc ++ [b i]) _ H locs ls (by omega) (by omega) (by simp [hj]) (by omega) (hj ▸ tw_acc hacc (b i)) ?_ hw hl
      have h5 := tw_tot c9 hs htot
      rw [show tw_enc (b i, 1).1 = [b i] from if_pos (show b i < 65536 by omega)] at h5
      exact h5
    have c7 : 128 ≤ b i := Nat.le_of_not_lt (fun h => by rw [tw_sx_lo (b i) h] at c8; exact nI_pos (by omega) c8)
    have hm0 : tw_more (b i) ≠ 0 := by rcases tw_more_cases (b i) with h | h | h | h | h <;> omega
    refine va_gets hx hb (C := "UTF8") (n := "firstUnitTable") (d := "[S") (own := RX2) (ref := "UTF8") z1 hw.2.2 hown (hts _ q57) (fun _ h9 => h9) dX2_transcodeToUTF16_54 ?_
    refine lv_iload hx hb dX2_transcodeToUTF16_57 (lv_at hl 0 rfl) ?_
    refine lv_bipush (v := nI 127) hx hb dX2_transcodeToUTF16_59 (by decide +kernel) ?_
    refine n_iand (r := b i % 128) hx hb dX2_transcodeToUTF16_61 7 (by decide +kernel) (by omega) ?_
    refine va_ts (v := .int (tw_FU (b i % 128))) hx hb T1 hw.2.2 (vp_in_nI (by omega) (by decide)) (by rw [nI_clamp (by omega)]) dX2_transcodeToUTF16_62 ?_
    by_cases h9 : tw_more (b i) = 9
    · refine n_top (tw_FU_bad (b i) hy c7 h9) ?_
      refine lv_istore (lv' := [(8, .int (-2)), (7, .int (tw_sx (b i))), (4, .int (nI (i + 1))), (0, .ref t), (3, .ref q), (5, .int (nI j)), (6, .int (nI e0))]) hx hb dX2_transcodeToUTF16_63 hl (by decide) rfl (fun ls hl => ?_)
      refine lv_iload hx hb dX2_transcodeToUTF16_65 (lv_at hl 0 rfl) ?_
      refine lv_bipush (v := nI 8) hx hb dX2_transcodeToUTF16_67 (by decide +kernel) ?_
      refine lv_iushr (v := nI 16777215) hx hb dX2_transcodeToUTF16_69 (by decide +kernel) ?_
      refine lv_istore (lv' := [(9, .int (nI 16777215)), (8, .int (-2)), (7, .int (tw_sx (b i))), (4, .int (nI (i + 1))), (0, .ref t), (3, .ref q), (5, .int (nI j)), (6, .int (nI e0))]) hx hb dX2_transcodeToUTF16_70 hl (by decide) rfl (fun ls hl => ?_)
      refine lv_iload hx hb dX2_transcodeToUTF16_72 (lv_at hl 1 rfl) ?_
      refine lv_i2b (v := -2) hx hb dX2_transcodeToUTF16_74 (by decide +kernel) ?_
      refine lv_istore (lv' := [(10, .int (-2)), (9, .int (nI 16777215)), (8, .int (-2)), (7, .int (tw_sx (b i))), (4, .int (nI (i + 1))), (0, .ref t), (3, .ref q), (5, .int (nI j)), (6, .int (nI e0))]) hx hb dX2_transcodeToUTF16_75 hl (by decide) rfl (fun ls hl => ?_)
      refine lv_iload hx hb dX2_transcodeToUTF16_77 (lv_at hl 0 rfl) ?_
      refine lv_if_lt (tgt := 133) hx hb dX2_transcodeToUTF16_79 (by decide) (fun _ => ?_) (fun c6 => absurd (by decide) c6)
      refine lv_iload hx hb dX2_transcodeToUTF16_133 (lv_at hl 0 rfl) ?_
      refine lv_bipush (v := -2) hx hb dX2_transcodeToUTF16_135 (by decide +kernel) ?_
      refine n_neF (tgt := 142) hx hb dX2_transcodeToUTF16_137 (by decide) rfl ?_
      refine lv_iconst (v := -1) hx hb dX2_transcodeToUTF16_140 (by decide +kernel) ?_
      refine kR 141 ls H locs _ g dX2_transcodeToUTF16_141 hw ?_
      rw [htn (if_pos (Or.inl h9))]
      exact rfl
    obtain ⟨f1, f2, f3, f4⟩ := tw_FU_ok (b i) hy c7 h9
    refine n_top f1 ?_
    refine lv_istore (lv' := [(8, .int (nI (tw_v0 (b i) * 256 + tw_st (b i)))), (7, .int (tw_sx (b i))), (4, .int (nI (i + 1))), (0, .ref t), (3, .ref q), (5, .int (nI j)), (6, .int (nI e0))]) hx hb dX2_transcodeToUTF16_63 hl (by decide) rfl (fun ls hl => ?_)
    refine lv_iload hx hb dX2_transcodeToUTF16_65 (lv_at hl 0 rfl) ?_
    refine lv_bipush (v := nI 8) hx hb dX2_transcodeToUTF16_67 (by decide +kernel) ?_
    refine n_iushr (r := tw_v0 (b i)) hx hb dX2_transcodeToUTF16_69 (by omega) (by decide) (by omega) ?_
    refine lv_istore (lv' := [(9, .int (nI (tw_v0 (b i)))), (8, .int (nI (tw_v0 (b i) * 256 + tw_st (b i)))), (7, .int (tw_sx (b i))), (4, .int (nI (i + 1))), (0, .ref t), (3, .ref q), (5, .int (nI j)), (6, .int (nI e0))]) hx hb dX2_transcodeToUTF16_70 hl (by decide) rfl (fun ls hl => ?_)
    refine lv_iload hx hb dX2_transcodeToUTF16_72 (lv_at hl 1 rfl) ?_
    refine lv_i2b (v := nI (tw_st (b i))) hx hb dX2_transcodeToUTF16_74 f2 ?_
    refine lv_istore (lv' := [(10, .int (nI (tw_st (b i)))), (9, .int (nI (tw_v0 (b i)))), (8, .int (nI (tw_v0 (b i) * 256 + tw_st (b i)))), (7, .int (tw_sx (b i))), (4, .int (nI (i + 1))), (0, .ref t), (3, .ref q), (5, .int (nI j)), (6, .int (nI e0))]) hx hb dX2_transcodeToUTF16_75 hl (by decide) rfl (fun ls hl => ?_)
    have hl : lv_has ls 11 [(0, .ref t), (3, .ref q), (4, .int (nI (i + 1))), (5, .int (nI j)), (6, .int (nI e0)), (9, .int (nI (tw_v0 (b i)))), (10, .int (nI (tw_st (b i))))] := lv_sub hl [5, 6, 4, 7, 8, 1, 0] rfl
    have hsi := tw_step_inn b i e0 hm0 h9
    refine tc_inner hx hb hown hts hK hT0 hb6 e0 he hw j (tw_inn b e0 (tw_more (b i)) (tw_st (b i)) (i + 1) (tw_v0 (b i))) (fun ho pc ls d => ?_) (fun v i2 ho hv ls hl => ?_) (tw_more (b i)) (tw_st (b i)) (i + 1) (tw_v0 (b i)) (tw_st_ok hm0 h9).1 (tw_v0_bd (b i) hy c7 h9) (by omega) rfl ls hl
    · refine kR pc ls H locs _ g d hw ?_
      rw [htn (by rw [hsi, ho]; rfl)]
      exact rfl
    have hs : tw_step b i e0 = some (v, i2 - i) := by rw [hsi, ho]; rfl
    obtain ⟨s1, s2, s3, s4⟩ := tw_step_some hs
    dsimp only at s1 s2 s3 s4
    have h5 := tw_tot c9 hs htot
    dsimp only at h5
    rw [show i + (i2 - i) = i2 by omega] at h5
    have he2 := tw_enc_len v
    refine lv_iload hx hb dX2_transcodeToUTF16_142 (lv_at hl 5 rfl) ?_
    refine lv_ldc (v := 65535) hx hb hown (hts _ q61) dX2_transcodeToUTF16_144 ?_
    refine n_top (y := (nI 65535)) (by decide +kernel) ?_
    refine n_icmp_gt (tgt := 171) hx hb dX2_transcodeToUTF16_146 (by decide) (by omega) (by omega) (fun c6 => ?_) (fun c6 => ?_)
    rotate_left
    · rw [if_pos (by omega)] at he2
      refine lv_iload hx hb dX2_transcodeToUTF16_149 (lv_at hl 3 rfl) ?_
      refine lv_aload_n hx hb dX2_transcodeToUTF16_151 rfl (lv_at hl 1 rfl) ?_
      refine tw_alen hx hb hK hw 1 1 rfl rfl dX2_transcodeToUTF16_152 ?_
      refine n_icmp_lt (tgt := 158) hx hb dX2_transcodeToUTF16_153 (by decide) (by omega) (by omega) (fun _ => ?_) (fun c5 => absurd c5 (by omega))
      refine lv_aload_n hx hb dX2_transcodeToUTF16_158 rfl (lv_at hl 1 rfl) ?_
      refine lv_iload hx hb dX2_transcodeToUTF16_159 (lv_at hl 3 rfl) ?_
      refine lv_iinc (lv' := [(5, .int (nI (j + 1))), (0, .ref t), (3, .ref q), (4, .int (nI i2)), (6, .int (nI e0)), (9, .int (nI v))]) (k := 3) hx hb dX2_transcodeToUTF16_161 hl rfl (n_inc1 rfl) (by decide) rfl (fun ls hl => ?_)
      refine lv_iload hx hb dX2_transcodeToUTF16_164 (lv_at hl 5 rfl) ?_
      refine n_i2c hx hb dX2_transcodeToUTF16_166 (by omega) ?_
      refine tw_cast (X1 := tw_BT dB dH t q b (upd g j (nI v))) hx hb hK hw 1 1 rfl rfl (by omega) (by decide) (by omega) rfl dX2_transcodeToUTF16_167 (fun H locs hw => ?_)
      refine lv_goto (tgt := 215) hx hb dX2_transcodeToUTF16_168 (by decide) ?_
      refine lv_goto (tgt := 11) hx hb dX2_transcodeToUTF16_215 (by decide) ?_
      have hl : lv_has ls 11 [(0, .ref t), (3, .ref q), (4, .int (nI i2)), (5, .int (nI (j + 1))), (6, .int (nI e0))] := lv_sub hl [1, 2, 3, 0, 4] rfl
      refine ih i2 (j + 1) (acc ++ [v]) _ H locs ls (by omega) (by omega) (by simp [hj]) (by omega) (hj ▸ tw_acc hacc v) ?_ hw hl
      rw [show tw_enc v = [v] from if_pos (by omega)] at h5
      exact h5
    rw [if_neg (by omega)] at he2
    refine lv_iload hx hb dX2_transcodeToUTF16_171 (lv_at hl 3 rfl) ?_
    refine lv_aload_n hx hb dX2_transcodeToUTF16_173 rfl (lv_at hl 1 rfl) ?_
    refine tw_alen hx hb hK hw 1 1 rfl rfl dX2_transcodeToUTF16_174 ?_
    refine lv_iconst (v := nI 1) hx hb dX2_transcodeToUTF16_175 (by decide +kernel) ?_
    refine n_isub (r := 1023) hx hb dX2_transcodeToUTF16_176 (by decide) rfl ?_
    refine n_icmp_lt (tgt := 182) hx hb dX2_transcodeToUTF16_177 (by decide) (by omega) (by omega) (fun _ => ?_) (fun c5 => absurd c5 (by omega))
    refine lv_aload_n hx hb dX2_transcodeToUTF16_182 rfl (lv_at hl 1 rfl) ?_
    refine lv_iload hx hb dX2_transcodeToUTF16_183 (lv_at hl 3 rfl) ?_
    refine lv_iinc (lv' := [(5, .int (nI (j + 1))), (0, .ref t), (3, .ref q), (4, .int (nI i2)), (6, .int (nI e0)), (9, .int (nI v))]) (k := 3) hx hb dX2_transcodeToUTF16_185 hl rfl (n_inc1 rfl) (by decide) rfl (fun ls hl => ?_)
    refine lv_ldc (v := 55232) hx hb hown (hts _ q62) dX2_transcodeToUTF16_188 ?_
    refine n_top (y := (nI 55232)) (by decide +kernel) ?_
    refine lv_iload hx hb dX2_transcodeToUTF16_190 (lv_at hl 5 rfl) ?_
    refine lv_bipush (v := nI 10) hx hb dX2_transcodeToUTF16_192 (by decide +kernel) ?_
    refine n_iushr (r := v / 1024) hx hb dX2_transcodeToUTF16_194 (by omega) (by decide) rfl ?_
    refine n_iadd (r := 55232 + v / 1024) hx hb dX2_transcodeToUTF16_195 rfl ?_
    refine n_i2c hx hb dX2_transcodeToUTF16_196 (by omega) ?_
    refine tw_cast (X1 := tw_BT dB dH t q b (upd g j (nI (55232 + v / 1024)))) hx hb hK hw 1 1 rfl rfl (by omega) (by decide) (by omega) rfl dX2_transcodeToUTF16_197 (fun H locs hw => ?_)
    refine lv_aload_n hx hb dX2_transcodeToUTF16_198 rfl (lv_at hl 2 rfl) ?_
    refine lv_iload hx hb dX2_transcodeToUTF16_199 (lv_at hl 0 rfl) ?_
    refine lv_iinc (lv' := [(5, .int (nI (j + 2))), (0, .ref t), (3, .ref q), (4, .int (nI i2)), (6, .int (nI e0)), (9, .int (nI v))]) (k := 0) hx hb dX2_transcodeToUTF16_201 hl rfl (n_inc1 rfl) (by decide) rfl (fun ls hl => ?_)
    refine lv_ldc (v := 56320) hx hb hown (hts _ q63) dX2_transcodeToUTF16_204 ?_
    refine n_top (y := (nI 56320)) (by decide +kernel) ?_
    refine lv_iload hx hb dX2_transcodeToUTF16_206 (lv_at hl 5 rfl) ?_
    refine lv_sipush (v := nI 1023) hx hb dX2_transcodeToUTF16_208 (by decide +kernel) ?_
    refine n_iandN (r := v % 1024) hx hb dX2_transcodeToUTF16_211 10 (by omega) (by decide +kernel) rfl ?_
    refine n_ior (r := 56320 + v % 1024) hx hb dX2_transcodeToUTF16_212 (n_orK 10 (by decide) (by omega) rfl) ?_
    refine n_i2c hx hb dX2_transcodeToUTF16_213 (by omega) ?_
    refine tw_cast (X1 := tw_BT dB dH t q b (upd (upd g j (nI (55232 + v / 1024))) (j + 1) (nI (56320 + v % 1024)))) hx hb hK hw 1 1 rfl rfl (by omega) (by decide) (by omega) rfl dX2_transcodeToUTF16_214 (fun H locs hw => ?_)
    refine lv_goto (tgt := 11) hx hb dX2_transcodeToUTF16_215 (by decide) ?_
    have hl : lv_has ls 11 [(0, .ref t), (3, .ref q), (4, .int (nI i2)), (5, .int (nI (j + 2))), (6, .int (nI e0))] := lv_sub hl [1, 2, 3, 0, 4] rfl
    have e5 : tw_enc v = [55232 + v / 1024, 56320 + v % 1024] := by rw [show 55232 + v / 1024 = 55296 + (v - 65536) / 1024 by omega, show 56320 + v % 1024 = 56320 + (v - 65536) % 1024 by omega]; exact if_neg (by omega)
    have h6 := tw_acc2 hj hacc (55232 + v / 1024) (56320 + v % 1024)
    rw [e5] at h5
    exact ih i2 (j + 2) (acc ++ [55232 + v / 1024, 56320 + v % 1024]) _ H locs ls (by omega) (by omega) (by simp [hj]) (by omega) h6 h5 hw hl
set_option maxHeartbeats 4000000 in
set_option maxRecDepth 100000 in
/-- transcodeToUTF16(t, i0, n0, q): the UTF-16 units of the bytes, or -1 -/
theorem met_tc (l : Launch) (dC : Nat → ClassId) (dI : Nat → Nat → Nat) (dB dH : ClassId) (t q sz : Nat) (b : Nat → Nat) (g : Nat → Int32) (hb6 : ∀ j, b j < 256) (i0 n0 : Nat) (hle : i0 + n0 ≤ 1024) : Met l yX2_transcodeToUTF16 (ws_ yX2_transcodeToUTF16 cX2_transcodeToUTF16 11 (some .int)) ({ frames := 0, cells := 0, slots := 0, locals := 0 }) (va_Pc [.ref t, .int (nI i0), .int (nI n0), .ref q] (tw_Pre dC dI [(dB, .byte), (dH, .char)] (tw_BT dB dH t q b g) sz)) (va_Qi (fun (r : Int32) (g' : Nat → Int32) => tw_out (tw_dec b i0 (i0 + n0)) r g') (fun g' T => tw_End dC dI (va_A (tw_BT dB dH t q b g) sz) (tw_BT dB dH t q b g') T) (va_A (tw_BT dB dH t q b g) sz)) 0 0 (va_A (tw_BT dB dH t q b g) sz) := by
  refine Met.ofW (cc := cX2_transcodeToUTF16) (maxL := 11) (ret := (some .int)) (by decide) rfl ?_
  intro p e s m args below meth c s₁ B hml hv
  obtain ⟨rfl, hsz, hP, hK, hD0, hT⟩ := hv
  have hx := B.exec
  have hb := B.bytes
  have hr := B.returns
  have hts := atoms_spec (ws := ws_ yX2_transcodeToUTF16 cX2_transcodeToUTF16 11 (some .int)) B.pre
  have hts : ∀ w ∈ lw_all, w.before _ s = true := fun w h => hts w (List.mem_cons_of_mem _ h)
  have hown : s.vm.findClass RX2 = some m.cls := findClass_of_methodNamed B.named
  have hlocks := B.notSynchronized
  subst hsz
  have hD := hD0.self (sz := s.heap.size)
  have hA : ∀ q9 : Nat, s.heap.size ≤ q9 → va_A (tw_BT dB dH t q b g) s.heap.size q9 := fun q9 h9 => Or.inr h9
  generalize hAe : va_A (tw_BT dB dH t q b g) s.heap.size = A at hD hA hT ⊢
  have hw : tw_Wd dC dI A s (tw_BT dB dH t q b g) s.heap [] := ⟨hP, hD, va_S.rf⟩
  clear hP hD hD0
  have hl := lv_entry ([.ref t, .int (nI i0), .int (nI n0), .ref q]) (n := 11) (Nat.le_of_ble_eq_true rfl)
  rw [lg_entry_eq]
  generalize (lg_sl ([.ref t, .int (nI i0), .int (nI n0), .ref q]) ++ List.replicate (11 - (lg_sl ([.ref t, .int (nI i0), .int (nI n0), .ref q])).length) Slot.unset).toArray = ls at hl ⊢
  have hl : lv_has ls 11 [(0, .ref t), (1, .int (nI i0)), (2, .int (nI n0)), (3, .ref q)] := hl
  refine lv_iload_n hx hb dX2_transcodeToUTF16_0 rfl (lv_at hl 1 rfl) ?_
  refine lv_istore (lv' := [(4, .int (nI i0)), (0, .ref t), (1, .int (nI i0)), (2, .int (nI n0)), (3, .ref q)]) hx hb dX2_transcodeToUTF16_1 hl (by decide) rfl (fun ls hl => ?_)
  refine lv_iconst (v := nI 0) hx hb dX2_transcodeToUTF16_3 (by decide +kernel) ?_
  refine lv_istore (lv' := [(5, .int (nI 0)), (4, .int (nI i0)), (0, .ref t), (1, .int (nI i0)), (2, .int (nI n0)), (3, .ref q)]) hx hb dX2_transcodeToUTF16_4 hl (by decide) rfl (fun ls hl => ?_)
  refine lv_iload_n hx hb dX2_transcodeToUTF16_6 rfl (lv_at hl 3 rfl) ?_
  refine lv_iload_n hx hb dX2_transcodeToUTF16_7 rfl (lv_at hl 4 rfl) ?_
  refine n_iadd (r := i0 + n0) hx hb dX2_transcodeToUTF16_8 rfl ?_
  refine lv_istore (lv' := [(6, .int (nI (i0 + n0))), (5, .int (nI 0)), (4, .int (nI i0)), (0, .ref t), (1, .int (nI i0)), (2, .int (nI n0)), (3, .ref q)]) hx hb dX2_transcodeToUTF16_9 hl (by decide) rfl (fun ls hl => ?_)
  have hl : lv_has ls 11 [(0, .ref t), (3, .ref q), (4, .int (nI i0)), (5, .int (nI 0)), (6, .int (nI (i0 + n0)))] := lv_sub hl [3, 6, 2, 1, 0] rfl
  refine tc_outer hx hb hown hts hK hT hb6 (i0 + n0) hle i0 (tw_dec b i0 (i0 + n0)) (fun pc ls H locs r g' d hw ho => ?_) (i0 + n0 + 1) i0 0 [] g s.heap [] ls (by omega) (by omega) rfl (by omega) (fun k hk => absurd hk (Nat.not_lt_zero _)) ?_ hw hl
  · exact tw_iret (Y1 := fun g' => tw_BT dB dH t q b g') g' hx hb hr hlocks hw ho d
  · unfold tw_dec
    cases tw_us b (i0 + n0) (i0 + n0 + 1) i0 <;> rfl
end
section
/-! WireLetters.read; the small methods of the law: cell, point, units -/
set_option maxRecDepth 100000
set_option maxHeartbeats 4000000 in
set_option maxRecDepth 100000 in
/-- read(at, k): the k bytes from at on are read -/
theorem met_read (l : Launch) (dC : Nat → ClassId) (dI : Nat → Nat → Nat) (dB dH : ClassId) (h t q sz : Nat) (b : Nat → Nat) (g : Nat → Int32) (n : Nat) (rd : Int32) (hb6 : ∀ j, b j < 256) (at0 k : Nat) (hn : n ≤ 1024) (hak : at0 + k ≤ n) : Met l yX1_read (ws_ yX1_read cX1_read 4 (some .int)) ({ frames := 1, cells := 0, slots := 0, locals := 30 }) (va_Pc [.ref h, .int (nI at0), .int (nI k)] (tw_Pre dC dI [(dB, .byte), (dH, .char)] (tw_WL dB dH h t q b g n rd) sz)) (va_Qi (fun (r : Int32) (u : Int32 × (Nat → Int32)) => u.1 = r ∧ tw_out (tw_dec b at0 (at0 + k)) r u.2) (fun u T => tw_End dC dI (va_A (tw_WL dB dH h t q b g n rd) sz) (tw_WL dB dH h t q b u.2 n u.1) T) (va_A (tw_WL dB dH h t q b g n rd) sz)) 0 0 (va_A (tw_WL dB dH h t q b g n rd) sz) := by
  refine Met.ofW (cc := cX1_read) (maxL := 4) (ret := (some .int)) (by decide) rfl ?_
  intro p e s m args below meth c s₁ B hml hv
  obtain ⟨rfl, hsz, hP, hK, hD0, hT⟩ := hv
  have hx := B.exec
  have hb := B.bytes
  have hr := B.returns
  have hts := atoms_spec (ws := ws_ yX1_read cX1_read 4 (some .int)) B.pre
  have hts : ∀ w ∈ lw_all, w.before _ s = true := fun w h => hts w (List.mem_cons_of_mem _ h)
  have hown : s.vm.findClass RX1 = some m.cls := findClass_of_methodNamed B.named
  have hlocks := B.notSynchronized
  subst hsz
  have hD := hD0.self (sz := s.heap.size)
  have hA : ∀ q9 : Nat, s.heap.size ≤ q9 → va_A (tw_WL dB dH h t q b g n rd) s.heap.size q9 := fun q9 h9 => Or.inr h9
  generalize hAe : va_A (tw_WL dB dH h t q b g n rd) s.heap.size = A at hD hA hT ⊢
  have hw : tw_Wd dC dI A s (tw_WL dB dH h t q b g n rd) s.heap [] := ⟨hP, hD, va_S.rf⟩
  clear hP hD hD0
  have hl := lv_entry ([.ref h, .int (nI at0), .int (nI k)]) (n := 4) (Nat.le_of_ble_eq_true rfl)
  rw [lg_entry_eq]
  generalize (lg_sl ([.ref h, .int (nI at0), .int (nI k)]) ++ List.replicate (4 - (lg_sl ([.ref h, .int (nI at0), .int (nI k)])).length) Slot.unset).toArray = ls at hl ⊢
  have hl : lv_has ls 4 [(0, .ref h), (1, .int (nI at0)), (2, .int (nI k))] := hl
  refine lv_iload_n hx hb dX1_read_0 rfl (lv_at hl 1 rfl) ?_
  refine lv_ldc (v := 2147483647) hx hb hown (hts _ q43) dX1_read_1 ?_
  refine n_top (y := (nI 2147483647)) (by decide +kernel) ?_
  refine n_iandN (r := at0) hx hb dX1_read_3 31 (by omega) (by decide +kernel) (Nat.mod_eq_of_lt (by omega)) ?_
  refine lv_aload_n hx hb dX1_read_4 rfl (lv_at hl 0 rfl) ?_
  refine va_get (D := (dC, dI)) (ci := 0) (v := .int (nI n)) (C := RX1) (T := TX1) (N := 4) hx hb hts in_X1 hown hK hw.1 0 rfl rfl 2 (by decide) (hts _ q16) (fun _ h9 => h9) rfl dX1_read_5 ?_
  refine lv_iconst (v := nI 1) hx hb dX1_read_8 (by decide +kernel) ?_
  refine n_iadd (r := n + 1) hx hb dX1_read_9 rfl ?_
  refine n_irem (r := at0) hx hb dX1_read_10 (by omega) (by omega) (by omega) (Nat.mod_eq_of_lt (by omega)) ?_
  refine lv_istore_n (lv' := [(3, .int (nI at0)), (0, .ref h), (1, .int (nI at0)), (2, .int (nI k))]) hx hb dX1_read_11 rfl hl (by decide) rfl (fun ls hl => ?_)
  refine lv_aload_n hx hb dX1_read_12 rfl (lv_at hl 1 rfl) ?_
  refine lv_aload_n hx hb dX1_read_13 rfl (lv_at hl 1 rfl) ?_
  refine va_get (D := (dC, dI)) (ci := 0) (v := .ref t) (C := RX1) (T := TX1) (N := 4) hx hb hts in_X1 hown hK hw.1 0 rfl rfl 0 (by decide) (hts _ q14) (fun _ h9 => h9) rfl dX1_read_14 ?_
  refine lv_iload_n hx hb dX1_read_17 rfl (lv_at hl 0 rfl) ?_
  refine lv_iload_n hx hb dX1_read_18 rfl (lv_at hl 3 rfl) ?_
  refine lv_ldc (v := 2147483647) hx hb hown (hts _ q43) dX1_read_19 ?_
  refine n_top (y := (nI 2147483647)) (by decide +kernel) ?_
  refine n_iandN (r := k) hx hb dX1_read_21 31 (by omega) (by decide +kernel) (Nat.mod_eq_of_lt (by omega)) ?_
  refine lv_aload_n hx hb dX1_read_22 rfl (lv_at hl 1 rfl) ?_
  refine va_get (D := (dC, dI)) (ci := 0) (v := .int (nI n)) (C := RX1) (T := TX1) (N := 4) hx hb hts in_X1 hown hK hw.1 0 rfl rfl 2 (by decide) (hts _ q16) (fun _ h9 => h9) rfl dX1_read_23 ?_
  refine lv_iload_n hx hb dX1_read_26 rfl (lv_at hl 0 rfl) ?_
  refine n_isub (r := n - at0) hx hb dX1_read_27 (by omega) rfl ?_
  refine lv_iconst (v := nI 1) hx hb dX1_read_28 (by decide +kernel) ?_
  refine n_iadd (r := (n - at0) + 1) hx hb dX1_read_29 rfl ?_
  refine n_irem (r := k) hx hb dX1_read_30 (by omega) (by omega) (by omega) (Nat.mod_eq_of_lt (by omega)) ?_
  refine lv_aload_n hx hb dX1_read_31 rfl (lv_at hl 1 rfl) ?_
  refine va_get (D := (dC, dI)) (ci := 0) (v := .ref q) (C := RX1) (T := TX1) (N := 4) hx hb hts in_X1 hown hK hw.1 0 rfl rfl 1 (by decide) (hts _ q15) (fun _ h9 => h9) rfl dX1_read_32 ?_
  refine tw_calli (X := [(h, .inr (0, [.ref t, .ref q, .int (nI n), .int rd]))]) (Y := tw_BT dB dH t q b g) (Y1 := fun g' => tw_BT dB dH t q b g') (va_runS (As := [.ref t, .int (nI at0), .int (nI k), .ref q]) (rest := [.ref h]) ⟨hx, hb, hml, hown, hts⟩ (met_tc l dC dI dB dH t q s.heap.size b g hb6 at0 k (by omega)) (va_cwS 4 hts (lw_S q54 q55 q2 q56) rfl rfl rfl (by decide +kernel) ⟨Nat.le_of_ble_eq_true rfl, Nat.le_of_ble_eq_true rfl⟩) (tw_preS (X := [(h, .inr (0, [.ref t, .ref q, .int (nI n), .int rd]))]) (Y := tw_BT dB dH t q b g) hw hA hT hK) rfl rfl hl.1 rfl (lv_room (Nat.le_of_ble_eq_true rfl)) dX1_read_35 ⟨Nat.le_refl _, Nat.le_refl _⟩) hw hA (fun r g1 H locs ho hw => ?_)
  have hw : tw_Wd dC dI A s (tw_WL dB dH h t q b g1 n rd) H locs := hw
  refine va_put (D := (dC, dI)) (ci := 0) (v := .int r) (ty := .int) (C := RX1) (T := TX1) (N := 4) hx hb hts in_X1 tyX1 tyX1_ok nmX1 hown hK hw.1 hw.2.1 hw.2.2 0 rfl rfl 3 (by decide) (hts _ q17) (fun _ h9 => h9) rfl (by decide +kernel) rfl rfl (Nat.le_of_ble_eq_true rfl) dX1_read_38 (fun H locs hP hD hS => ?_)
  have hw : tw_Wd dC dI A s (tw_WL dB dH h t q b g1 n r) H locs := ⟨hP, hD, hS⟩
  refine lv_aload_n hx hb dX1_read_41 rfl (lv_at hl 1 rfl) ?_
  refine va_get (D := (dC, dI)) (ci := 0) (v := .int r) (C := RX1) (T := TX1) (N := 4) hx hb hts in_X1 hown hK hw.1 0 rfl rfl 3 (by decide) (hts _ q17) (fun _ h9 => h9) rfl dX1_read_42 ?_
  have hq : (r, g1).1 = r ∧ tw_out (tw_dec b at0 (at0 + k)) r (r, g1).2 := ⟨rfl, ho⟩
  exact tw_iret (post := fun (r : Int32) (u : Int32 × (Nat → Int32)) => u.1 = r ∧ tw_out (tw_dec b at0 (at0 + k)) r u.2) (Y1 := fun u => tw_WL dB dH h t q b u.2 n u.1) (r, g1) hx hb hr hlocks hw hq dX1_read_45
set_option maxHeartbeats 4000000 in
set_option maxRecDepth 100000 in
/-- cell(s, k): the script's place k, 0 behind its end -/
theorem met_cell (l : Launch) (b0 L k sz : Nat) (xs : Nat → Int32) (hL : L ≤ 40) (hk : k < 2 ^ 31) : Met l yX0_cell (ws_ yX0_cell cX0_cell 2 (some .int)) ({ frames := 0, cells := 0, slots := 0, locals := 0 }) (va_Pc [.ref b0, .int (nI k)] (fun U => U.heap.size = sz ∧ va_X b0 L xs U U.heap ∧ b0 < sz)) (va_Qi (fun (r : Int32) (_ : Unit) => r = if k < L then xs k else nI 0) (fun _ _ => True) (fun _ => False)) 0 0 (fun _ => False) := by
  refine Met.ofW (cc := cX0_cell) (maxL := 2) (ret := some .int) (by decide) rfl ?_
  intro p e s m args below meth c s₁ B hml hv
  obtain ⟨rfl, hsz, hX, hbl⟩ := hv
  have hx := B.exec
  have hb := B.bytes
  have hr := B.returns
  have hlocks := B.notSynchronized
  subst hsz
  have hS : va_S (fun _ => False) s.heap s.heap [] := va_S.rf
  have hl := lv_entry ([.ref b0, .int (nI k)]) (n := 2) (Nat.le_of_ble_eq_true rfl)
  rw [lg_entry_eq]
  generalize (lg_sl ([.ref b0, .int (nI k)]) ++ List.replicate (2 - (lg_sl ([.ref b0, .int (nI k)])).length) Slot.unset).toArray = ls at hl ⊢
  have hl : lv_has ls 2 [(0, .ref b0), (1, .int (nI k))] := hl
  refine lv_iload_n hx hb dX0_cell_0 rfl (lv_at hl 1 rfl) ?_
  refine lv_aload_n hx hb dX0_cell_1 rfl (lv_at hl 0 rfl) ?_
  refine va_slen hx hb hX hbl (fun h => h) hS dX0_cell_2 ?_
  refine n_icmp_ge (a := k) (b := L) (tgt := 12) hx hb dX0_cell_3 (by decide) hk (by omega) (fun c => ?_) (fun c => ?_)
  · refine lv_iconst (v := nI 0) hx hb dX0_cell_12 (by decide +kernel) ?_
    exact W.iret (v := nI 0) hx hb hr (fun t ht _ => ⟨⟨nI 0, (), rfl, (if_neg (by omega)).symm, trivial⟩, hS.F ht⟩) hS.2.2 dX0_cell_13
  · refine lv_aload_n hx hb dX0_cell_6 rfl (lv_at hl 0 rfl) ?_
    refine lv_iload_n hx hb dX0_cell_7 rfl (lv_at hl 1 rfl) ?_
    refine va_sld hx hb hX hbl (fun h => h) hS (vp_in_nI c (by omega)) dX0_cell_8 ?_
    rw [nI_clamp hk]
    refine lv_goto (tgt := 13) hx hb dX0_cell_9 (by decide) ?_
    exact W.iret (v := xs k) hx hb hr (fun t ht _ => ⟨⟨xs k, (), rfl, (if_pos c).symm, trivial⟩, hS.F ht⟩) hS.2.2 dX0_cell_13
/-- the code point that an int is drawn to -/
def tw_pt (x : Int32) : Nat := if x.toBitVec.toNat % 2147483648 % 1112064 < 55296 then x.toBitVec.toNat % 2147483648 % 1112064 else x.toBitVec.toNat % 2147483648 % 1112064 + 2048
theorem tw_pt_sc (x : Int32) : tw_sc (tw_pt x) := by
  unfold tw_pt tw_sc
  have := Nat.mod_lt (x.toBitVec.toNat % 2147483648) (show 0 < 1112064 by decide)
  split <;> omega
set_option maxHeartbeats 4000000 in
set_option maxRecDepth 100000 in
/-- point(x) -/
theorem met_point (l : Launch) (x : Int32) : Met l yX0_point (ws_ yX0_point cX0_point 2 (some .int)) ({ frames := 0, cells := 0, slots := 0, locals := 0 }) (va_Pc [.int x] (fun _ => True)) (va_Qi (fun (r : Int32) (_ : Unit) => r = nI (tw_pt x)) (fun _ _ => True) (fun _ => False)) 0 0 (fun _ => False) := by
  refine Met.ofW (cc := cX0_point) (maxL := 2) (ret := some .int) (by decide) rfl ?_
  intro p e s m args below meth c s₁ B hml hv
  obtain ⟨rfl, -⟩ := hv
  have hx := B.exec
  have hb := B.bytes
  have hr := B.returns
  have hts := atoms_spec (ws := ws_ yX0_point cX0_point 2 (some .int)) B.pre
  have hts : ∀ w ∈ lw_all, w.before _ s = true := fun w h => hts w (List.mem_cons_of_mem _ h)
  have hown : s.vm.findClass RX0 = some m.cls := findClass_of_methodNamed B.named
  have hlocks := B.notSynchronized
  have hS : va_S (fun _ => False) s.heap s.heap [] := va_S.rf
  have hl := lv_entry ([.int x]) (n := 2) (Nat.le_of_ble_eq_true rfl)
  rw [lg_entry_eq]
  generalize (lg_sl ([.int x]) ++ List.replicate (2 - (lg_sl ([.int x])).length) Slot.unset).toArray = ls at hl ⊢
  have hl : lv_has ls 2 [(0, .int x)] := hl
  have hm := Nat.mod_lt x.toBitVec.toNat (show 0 < 2147483648 by decide)
  have hm2 := Nat.mod_lt (x.toBitVec.toNat % 2147483648) (show 0 < 1112064 by decide)
  refine lv_iload_n hx hb dX0_point_0 rfl (lv_at hl 0 rfl) ?_
  refine lv_ldc (v := 2147483647) hx hb hown (hts _ q74) dX0_point_1 ?_
  refine n_top (y := (nI 2147483647)) (by decide +kernel) ?_
  refine n_iand (r := x.toBitVec.toNat % 2147483648) hx hb dX0_point_3 31 (by decide +kernel) rfl ?_
  refine lv_ldc (v := 1112064) hx hb hown (hts _ q95) dX0_point_4 ?_
  refine n_top (y := (nI 1112064)) (by decide +kernel) ?_
  refine n_irem (r := (x.toBitVec.toNat % 2147483648) % 1112064) hx hb dX0_point_6 (by omega) (by omega) (by omega) rfl ?_
  refine lv_istore_n (lv' := [(1, .int (nI ((x.toBitVec.toNat % 2147483648) % 1112064))), (0, .int x)]) hx hb dX0_point_7 rfl hl (by decide) rfl (fun ls hl => ?_)
  refine lv_iload_n hx hb dX0_point_8 rfl (lv_at hl 0 rfl) ?_
  refine lv_ldc (v := 55296) hx hb hown (hts _ q48) dX0_point_9 ?_
  refine n_top (y := (nI 55296)) (by decide +kernel) ?_
  refine n_icmp_ge (tgt := 18) hx hb dX0_point_11 (by decide) (by omega) (by omega) (fun c => ?_) (fun c => ?_)
  · skip
    refine lv_iload_n hx hb dX0_point_18 rfl (lv_at hl 0 rfl) ?_
    refine lv_sipush (v := nI 2048) hx hb dX0_point_19 (by decide +kernel) ?_
    refine n_iadd (r := ((x.toBitVec.toNat % 2147483648) % 1112064) + 2048) hx hb dX0_point_22 rfl ?_
    exact W.iret (v := nI (x.toBitVec.toNat % 2147483648 % 1112064 + 2048)) hx hb hr (fun t ht _ => ⟨⟨_, (), rfl, congrArg nI (if_neg (by omega)).symm, trivial⟩, hS.F ht⟩) hS.2.2 dX0_point_23
  · skip
    refine lv_iload_n hx hb dX0_point_14 rfl (lv_at hl 0 rfl) ?_
    refine lv_goto (tgt := 23) hx hb dX0_point_15 (by decide) ?_
    exact W.iret (v := nI (x.toBitVec.toNat % 2147483648 % 1112064)) hx hb hr (fun t ht _ => ⟨⟨_, (), rfl, congrArg nI (if_pos c).symm, trivial⟩, hS.F ht⟩) hS.2.2 dX0_point_23
end
section
/-! the law's own reader: units -/
set_option maxRecDepth 100000
abbrev tw_UT (dN dO : ClassId) (w o : Nat) (wf g : Nat → Int32) : va_W := [(w, .inl (dN, 40, .inl wf)), (o, .inl (dO, 80, .inl g))]
theorem tw_v0_bd4 : ∀ x, x < 256 → tw_more x ≠ 9 → (tw_more x = 3 ∧ tw_v0 x < 8) ∨ (tw_more x = 2 ∧ tw_v0 x < 512) ∨ (tw_more x = 1 ∧ tw_v0 x < 32768) ∨ (tw_more x = 0 ∧ tw_v0 x < 2097152) := by decide +kernel
theorem tw_v0_0 {x : Nat} (h : tw_more x = 0) : tw_v0 x = x := if_pos h
theorem tw_v0_1 {x : Nat} (h : tw_more x = 1) : tw_v0 x = x % 32 := by unfold tw_v0; rw [if_neg (by omega), if_pos h]
theorem tw_v0_2 {x : Nat} (h : tw_more x = 2) : tw_v0 x = x % 16 := by unfold tw_v0; rw [if_neg (by omega), if_neg (by omega), if_pos h]
theorem tw_v0_3 {x : Nat} (h0 : tw_more x ≠ 0) (h1 : tw_more x ≠ 1) (h2 : tw_more x ≠ 2) : tw_v0 x = x % 8 := by unfold tw_v0; rw [if_neg h0, if_neg h1, if_neg h2]
theorem tw_more_x {x : Nat} (h : 128 ≤ x) (h2 : x < 194) : tw_more x = 9 := by unfold tw_more; rw [if_neg (by omega), if_pos h2]
section GV
variable {p : Program} {l : Launch} {e : Env} {R : Room} {s : State} {m : MethodId} {args : Array Value} {below : List Frame} {meth : Method} {c : Code} {H : Heap} {locs : List Loc} {cells slots : Nat} {Q : State → Prop} {cc : ByteArray} {pc : Nat} {ls : Array Slot} {rest : List Value}
theorem n_if_ne {a : Nat} {off : Int} {tgt : Nat} (hx : p.tables.exec = Jvm.exec) (hb : c.code = cc) (d : decode cc pc = .ok (.ifCond .ne off, 3)) (ht : (pc : Int) + off = (tgt : Int)) (h1 : a < 2 ^ 31) (kt : a ≠ 0 → W p l e R s m args below meth c H locs cells slots Q (F0 m tgt ls rest)) (kf : a = 0 → W p l e R s m args below meth c H locs cells slots Q (F0 m (pc + 3) ls rest)) : W p l e R s m args below meth c H locs cells slots Q (F0 m pc ls (.int (nI a) :: rest)) :=
  lv_if_ne hx hb d ht (fun q => kt (fun z => q (by rw [z]; rfl))) (fun q => kf ((nI_eq h1 (by decide)).1 (q.trans nI_0.symm)))
end GV
set_option maxHeartbeats 4000000 in
/-- the inner loop at its head: k bytes are still wanted, the next is the place a behind the first -/
theorem un_inner {p : Program} {l : Launch} {e : Env} {R : Room} {s : State} {m : MethodId} {args : Array Value} {below : List Frame} {meth : Method} {c : Code} {cells slots : Nat} {Q : State → Prop} {dC : Nat → ClassId} {dI : Nat → Nat → Nat} {A : Nat → Prop} {dN dO : ClassId} {w o : Nat} {wf : Nat → Int32} {b : Nat → Nat}
  (hx : p.tables.exec = Jvm.exec) (hb : c.code = cX0_units) (hown : s.vm.findClass RX0 = some m.cls) (hts : ∀ w ∈ lw_all, w.before args s = true) (hK : va_K (dC, dI) vwCl [(dN, .int), (dO, .int)] s) (hb6 : ∀ j, b j < 256) (hwf : ∀ j, j < 40 → wf j = nI (b j)) (e0 : Nat) (he : e0 ≤ 40) {H : Heap} {locs : List Loc} {g : Nat → Int32} (hw : tw_Wd dC dI A s (tw_UT dN dO w o wf g) H locs) (i j : Nat) (hie : i + tw_more (b i) < e0) (oc : Option Nat)
  (kE : oc = none → ∀ (pc : Nat) (ls : Array Slot), decode cX0_units pc = .ok (.ireturn, 1) → W p l e R s m args below meth c H locs cells slots Q (F0 m pc ls [.int (-1)]))
  (kS : ∀ v : Nat, oc = some v → v < 2097152 → ∀ ls : Array Slot, lv_has ls 13 [(0, .ref w), (2, .int (nI e0)), (3, .ref o), (4, .int (nI i)), (5, .int (nI j)), (7, .int (nI (tw_more (b i)))), (8, .int (nI v))] → W p l e R s m args below meth c H locs cells slots Q (F0 m 290 ls [])) :
    ∀ (k a v : Nat), a + k = tw_more (b i) + 1 → 1 ≤ a → ((k = 3 ∧ v < 8) ∨ (k = 2 ∧ v < 512) ∨ (k = 1 ∧ v < 32768) ∨ (k = 0 ∧ v < 2097152)) → oc = tw_cs b (b i) i k a v → ∀ (ls : Array Slot), lv_has ls 13 [(0, .ref w), (2, .int (nI e0)), (3, .ref o), (4, .int (nI i)), (5, .int (nI j)), (6, .int (nI (b i))), (7, .int (nI (tw_more (b i)))), (8, .int (nI v)), (9, .int (nI a))] → W p l e R s m args below meth c H locs cells slots Q (F0 m 149 ls []) := by
  have hy := hb6 i
  intro k
  induction k with
  | zero =>
    intro a v hak ha hbd ho ls hl
    refine lv_iload hx hb dX0_units_149 (lv_at hl 8 rfl) ?_
    refine lv_iload hx hb dX0_units_151 (lv_at hl 6 rfl) ?_
    refine n_icmp_gt (tgt := 290) hx hb dX0_units_153 (by decide) (by omega) (by omega) (fun _ => ?_) (fun c9 => absurd c9 (by omega))
    have hl : lv_has ls 13 [(0, .ref w), (2, .int (nI e0)), (3, .ref o), (4, .int (nI i)), (5, .int (nI j)), (7, .int (nI (tw_more (b i)))), (8, .int (nI v))] := lv_sub hl [0, 1, 2, 3, 4, 6, 7] rfl
    exact kS v ho (by omega) ls hl
  | succ k ih =>
    intro a v hak ha hbd ho ls hl
    have hz := hb6 (i + a)
    have ho : oc = if b (i + a) < (if 1 < a then 128 else tw_lo (b i)) ∨ (if 1 < a then 191 else tw_hi (b i)) < b (i + a) then none else tw_cs b (b i) i k (a + 1) (v * 64 + b (i + a) % 64) := ho
    generalize hlo : (if 1 < a then 128 else tw_lo (b i)) = lo at ho
    generalize hhi : (if 1 < a then 191 else tw_hi (b i)) = hi at ho
    have l1 := tw_lo_cases (b i)
    have l2 := tw_hi_cases (b i)
    have hlo2 : lo < 256 := by rw [← hlo]; split <;> omega
    have hhi2 : hi < 256 := by rw [← hhi]; split <;> omega
    refine lv_iload hx hb dX0_units_149 (lv_at hl 8 rfl) ?_
    refine lv_iload hx hb dX0_units_151 (lv_at hl 6 rfl) ?_
    refine n_icmp_gt (tgt := 290) hx hb dX0_units_153 (by decide) (by omega) (by omega) (fun c9 => absurd c9 (by omega)) (fun _ => ?_)
    refine lv_aload_n hx hb dX0_units_156 rfl (lv_at hl 0 rfl) ?_
    refine lv_iload hx hb dX0_units_157 (lv_at hl 3 rfl) ?_
    refine lv_iload hx hb dX0_units_159 (lv_at hl 8 rfl) ?_
    refine n_iadd (r := i + a) hx hb dX0_units_161 rfl ?_
    refine tw_iald hx hb hK hw 0 0 rfl rfl (by omega) (by decide) dX0_units_162 ?_
    refine n_top (hwf (i + a) (by omega)) ?_
    refine lv_istore (lv' := [(10, .int (nI (b (i + a)))), (0, .ref w), (2, .int (nI e0)), (3, .ref o), (4, .int (nI i)), (5, .int (nI j)), (6, .int (nI (b i))), (7, .int (nI (tw_more (b i)))), (8, .int (nI v)), (9, .int (nI a))]) hx hb dX0_units_163 hl (by decide) rfl (fun ls hl => ?_)
    have kJ : W p l e R s m args below meth c H locs cells slots Q (F0 m 208 ls [.int (nI lo)]) := by
      refine lv_istore (lv' := [(11, .int (nI lo)), (10, .int (nI (b (i + a)))), (0, .ref w), (2, .int (nI e0)), (3, .ref o), (4, .int (nI i)), (5, .int (nI j)), (6, .int (nI (b i))), (7, .int (nI (tw_more (b i)))), (8, .int (nI v)), (9, .int (nI a))]) hx hb dX0_units_208 hl (by decide) rfl (fun ls hl => ?_)
      have kK : W p l e R s m args below meth c H locs cells slots Q (F0 m 253 ls [.int (nI hi)]) := by
        refine lv_istore (lv' := [(12, .int (nI hi)), (11, .int (nI lo)), (10, .int (nI (b (i + a)))), (0, .ref w), (2, .int (nI e0)), (3, .ref o), (4, .int (nI i)), (5, .int (nI j)), (6, .int (nI (b i))), (7, .int (nI (tw_more (b i)))), (8, .int (nI v)), (9, .int (nI a))]) hx hb dX0_units_253 hl (by decide) rfl (fun ls hl => ?_)
        refine lv_iload hx hb dX0_units_255 (lv_at hl 2 rfl) ?_
        refine lv_iload hx hb dX0_units_257 (lv_at hl 1 rfl) ?_
        refine n_icmp_lt (tgt := 269) hx hb dX0_units_259 (by decide) (by omega) (by omega) (fun c9 => ?_) (fun c9 => ?_)
        · skip
          refine lv_iconst (v := -1) hx hb dX0_units_269 (by decide +kernel) ?_
          exact kE (by rw [ho]; exact if_pos (Or.inl c9)) 270 ls dX0_units_270
        refine lv_iload hx hb dX0_units_262 (lv_at hl 2 rfl) ?_
        refine lv_iload hx hb dX0_units_264 (lv_at hl 0 rfl) ?_
        refine n_icmp_le (tgt := 271) hx hb dX0_units_266 (by decide) (by omega) (by omega) (fun c8 => ?_) (fun c8 => ?_)
        rotate_left
        · skip
          refine lv_iconst (v := -1) hx hb dX0_units_269 (by decide +kernel) ?_
          exact kE (by rw [ho]; exact if_pos (Or.inr c8)) 270 ls dX0_units_270
        rw [if_neg (by omega)] at ho
        refine lv_iload hx hb dX0_units_271 (lv_at hl 10 rfl) ?_
        refine lv_bipush (v := nI 6) hx hb dX0_units_273 (by decide +kernel) ?_
        refine n_ishl (r := v * 64) hx hb dX0_units_275 (by decide) (by omega) rfl ?_
        refine lv_iload hx hb dX0_units_276 (lv_at hl 2 rfl) ?_
        refine lv_bipush (v := nI 63) hx hb dX0_units_278 (by decide +kernel) ?_
        refine n_iandN (r := (b (i + a)) % 64) hx hb dX0_units_280 6 (by omega) (by decide +kernel) rfl ?_
        refine n_ior (r := v * 64 + b (i + a) % 64) hx hb dX0_units_281 (n_orK 6 (by omega) (by omega) rfl) ?_
        refine lv_istore (lv' := [(8, .int (nI (v * 64 + b (i + a) % 64))), (12, .int (nI hi)), (11, .int (nI lo)), (10, .int (nI (b (i + a)))), (0, .ref w), (2, .int (nI e0)), (3, .ref o), (4, .int (nI i)), (5, .int (nI j)), (6, .int (nI (b i))), (7, .int (nI (tw_more (b i)))), (9, .int (nI a))]) hx hb dX0_units_282 hl (by decide) rfl (fun ls hl => ?_)
        refine lv_iinc (lv' := [(9, .int (nI (a + 1))), (8, .int (nI (v * 64 + b (i + a) % 64))), (12, .int (nI hi)), (11, .int (nI lo)), (10, .int (nI (b (i + a)))), (0, .ref w), (2, .int (nI e0)), (3, .ref o), (4, .int (nI i)), (5, .int (nI j)), (6, .int (nI (b i))), (7, .int (nI (tw_more (b i))))]) (k := 11) hx hb dX0_units_284 hl rfl (n_inc1 rfl) (by decide) rfl (fun ls hl => ?_)
        refine lv_goto (tgt := 149) hx hb dX0_units_287 (by decide) ?_
        have hl : lv_has ls 13 [(0, .ref w), (2, .int (nI e0)), (3, .ref o), (4, .int (nI i)), (5, .int (nI j)), (6, .int (nI (b i))), (7, .int (nI (tw_more (b i)))), (8, .int (nI (v * 64 + b (i + a) % 64))), (9, .int (nI (a + 1)))] := lv_sub hl [5, 6, 7, 8, 9, 10, 11, 1, 0] rfl
        exact ih (a + 1) (v * 64 + b (i + a) % 64) (by omega) (by omega) (by omega) ho ls hl
      refine lv_iload hx hb dX0_units_210 (lv_at hl 10 rfl) ?_
      refine lv_iconst (v := nI 1) hx hb dX0_units_212 (by decide +kernel) ?_
      refine n_icmp_le (tgt := 222) hx hb dX0_units_213 (by decide) (by omega) (by omega) (fun c => ?_) (fun c => ?_)
      · skip
        refine lv_iload hx hb dX0_units_222 (lv_at hl 7 rfl) ?_
        refine lv_sipush (v := nI 237) hx hb dX0_units_224 (by decide +kernel) ?_
        refine n_icmp_ne (tgt := 236) hx hb dX0_units_227 (by decide) (by omega) (by omega) (fun c8 => ?_) (fun c8 => ?_)
        · skip
          refine lv_iload hx hb dX0_units_236 (lv_at hl 7 rfl) ?_
          refine lv_sipush (v := nI 244) hx hb dX0_units_238 (by decide +kernel) ?_
          refine n_icmp_ne (tgt := 250) hx hb dX0_units_241 (by decide) (by omega) (by omega) (fun c7 => ?_) (fun c7 => ?_)
          · skip
            refine lv_sipush (v := nI 191) hx hb dX0_units_250 (by decide +kernel) ?_
            exact n_top (y := (nI hi)) (congrArg nI (by rw [← hhi, if_neg (by omega)]; omega)) kK
          · skip
            refine lv_sipush (v := nI 143) hx hb dX0_units_244 (by decide +kernel) ?_
            refine lv_goto (tgt := 253) hx hb dX0_units_247 (by decide) ?_
            exact n_top (y := (nI hi)) (congrArg nI (by rw [← hhi, if_neg (by omega)]; omega)) kK
        · skip
          refine lv_sipush (v := nI 159) hx hb dX0_units_230 (by decide +kernel) ?_
          refine lv_goto (tgt := 253) hx hb dX0_units_233 (by decide) ?_
          exact n_top (y := (nI hi)) (congrArg nI (by rw [← hhi, if_neg (by omega)]; omega)) kK
      · skip
        refine lv_sipush (v := nI 191) hx hb dX0_units_216 (by decide +kernel) ?_
        refine lv_goto (tgt := 253) hx hb dX0_units_219 (by decide) ?_
        exact n_top (y := (nI hi)) (congrArg nI (by rw [← hhi, if_pos (by omega)])) kK
    refine lv_iload hx hb dX0_units_165 (lv_at hl 9 rfl) ?_
    refine lv_iconst (v := nI 1) hx hb dX0_units_167 (by decide +kernel) ?_
    refine n_icmp_le (tgt := 177) hx hb dX0_units_168 (by decide) (by omega) (by omega) (fun c => ?_) (fun c => ?_)
    · skip
      refine lv_iload hx hb dX0_units_177 (lv_at hl 6 rfl) ?_
      refine lv_sipush (v := nI 224) hx hb dX0_units_179 (by decide +kernel) ?_
      refine n_icmp_ne (tgt := 191) hx hb dX0_units_182 (by decide) (by omega) (by omega) (fun c8 => ?_) (fun c8 => ?_)
      · skip
        refine lv_iload hx hb dX0_units_191 (lv_at hl 6 rfl) ?_
        refine lv_sipush (v := nI 240) hx hb dX0_units_193 (by decide +kernel) ?_
        refine n_icmp_ne (tgt := 205) hx hb dX0_units_196 (by decide) (by omega) (by omega) (fun c7 => ?_) (fun c7 => ?_)
        · skip
          refine lv_sipush (v := nI 128) hx hb dX0_units_205 (by decide +kernel) ?_
          exact n_top (y := (nI lo)) (congrArg nI (by rw [← hlo, if_neg (by omega)]; omega)) kJ
        · skip
          refine lv_sipush (v := nI 144) hx hb dX0_units_199 (by decide +kernel) ?_
          refine lv_goto (tgt := 208) hx hb dX0_units_202 (by decide) ?_
          exact n_top (y := (nI lo)) (congrArg nI (by rw [← hlo, if_neg (by omega)]; omega)) kJ
      · skip
        refine lv_sipush (v := nI 160) hx hb dX0_units_185 (by decide +kernel) ?_
        refine lv_goto (tgt := 208) hx hb dX0_units_188 (by decide) ?_
        exact n_top (y := (nI lo)) (congrArg nI (by rw [← hlo, if_neg (by omega)]; omega)) kJ
    · skip
      refine lv_sipush (v := nI 128) hx hb dX0_units_171 (by decide +kernel) ?_
      refine lv_goto (tgt := 208) hx hb dX0_units_174 (by decide) ?_
      exact n_top (y := (nI lo)) (congrArg nI (by rw [← hlo, if_pos (by omega)])) kJ
set_option maxHeartbeats 8000000 in
/-- the outer loop at its head: acc is written, the next byte is i -/
theorem un_outer {p : Program} {l : Launch} {e : Env} {R : Room} {s : State} {m : MethodId} {args : Array Value} {below : List Frame} {meth : Method} {c : Code} {cells slots : Nat} {Q : State → Prop} {dC : Nat → ClassId} {dI : Nat → Nat → Nat} {A : Nat → Prop} {dN dO : ClassId} {w o : Nat} {wf : Nat → Int32} {b : Nat → Nat}
  (hx : p.tables.exec = Jvm.exec) (hb : c.code = cX0_units) (hown : s.vm.findClass RX0 = some m.cls) (hts : ∀ w ∈ lw_all, w.before args s = true) (hK : va_K (dC, dI) vwCl [(dN, .int), (dO, .int)] s) (hb6 : ∀ j, b j < 256) (hwf : ∀ j, j < 40 → wf j = nI (b j)) (e0 : Nat) (he : e0 ≤ 40) (i0 : Nat) (tot : Option (List Nat))
  (kR : ∀ (pc : Nat) (ls : Array Slot) (H : Heap) (locs : List Loc) (r : Int32) (g' : Nat → Int32), decode cX0_units pc = .ok (.ireturn, 1) → tw_Wd dC dI A s (tw_UT dN dO w o wf g') H locs → tw_out tot r g' → W p l e R s m args below meth c H locs cells slots Q (F0 m pc ls [.int r])) :
    ∀ (n i j : Nat) (acc : List Nat) (g : Nat → Int32) (H : Heap) (locs : List Loc) (ls : Array Slot), e0 ≤ i + n → i ≤ 40 → acc.length = j → j + i0 ≤ i → (∀ k, k < acc.length → g k = nI (acc.getD k 0)) → tot = (tw_us b e0 n i).map (fun r => acc ++ r) → tw_Wd dC dI A s (tw_UT dN dO w o wf g) H locs → lv_has ls 13 [(0, .ref w), (2, .int (nI e0)), (3, .ref o), (4, .int (nI i)), (5, .int (nI j))] → W p l e R s m args below meth c H locs cells slots Q (F0 m 6 ls []) := by
  intro n
  induction n with
  | zero =>
    intro i j acc g H locs ls hin hi1 hj hji hacc htot hw hl
    refine lv_iload hx hb dX0_units_6 (lv_at hl 3 rfl) ?_
    refine lv_iload_n hx hb dX0_units_8 rfl (lv_at hl 1 rfl) ?_
    refine n_icmp_ge (tgt := 357) hx hb dX0_units_9 (by decide) (by omega) (by omega) (fun c9 => ?_) (fun c9 => absurd c9 (by omega))
    refine lv_iload hx hb dX0_units_357 (lv_at hl 4 rfl) ?_
    refine kR 359 ls H locs _ g dX0_units_359 hw ?_
    rw [htot, tw_us_end (by omega)]
    show nI j = nI (acc ++ []).length ∧ ∀ k, k < (acc ++ []).length → g k = nI ((acc ++ []).getD k 0)
    rw [List.append_nil, hj]
    exact ⟨rfl, fun k hk => hacc k (by omega)⟩
  | succ n ih =>
    intro i j acc g H locs ls hin hi1 hj hji hacc htot hw hl
    refine lv_iload hx hb dX0_units_6 (lv_at hl 3 rfl) ?_
    refine lv_iload_n hx hb dX0_units_8 rfl (lv_at hl 1 rfl) ?_
    refine n_icmp_ge (tgt := 357) hx hb dX0_units_9 (by decide) (by omega) (by omega) (fun c9 => ?_) (fun c9 => ?_)
    · skip
      refine lv_iload hx hb dX0_units_357 (lv_at hl 4 rfl) ?_
      refine kR 359 ls H locs _ g dX0_units_359 hw ?_
      rw [htot, tw_us_end (by omega)]
      show nI j = nI (acc ++ []).length ∧ ∀ k, k < (acc ++ []).length → g k = nI ((acc ++ []).getD k 0)
      rw [List.append_nil, hj]
      exact ⟨rfl, fun k hk => hacc k (by omega)⟩
    have hy := hb6 i
    have htn : tw_step b i e0 = none → tot = none := fun h => by rw [htot, tw_us_none c9 h]; rfl
    have hmc := tw_more_cases (b i)
    have hm9 : tw_more (b i) ≤ 9 := by omega
    refine lv_aload_n hx hb dX0_units_12 rfl (lv_at hl 0 rfl) ?_
    refine lv_iload hx hb dX0_units_13 (lv_at hl 3 rfl) ?_
    refine tw_iald hx hb hK hw 0 0 rfl rfl (by omega) (by decide) dX0_units_15 ?_
    refine n_top (hwf i (by omega)) ?_
    refine lv_istore (lv' := [(6, .int (nI (b i))), (0, .ref w), (2, .int (nI e0)), (3, .ref o), (4, .int (nI i)), (5, .int (nI j))]) hx hb dX0_units_16 hl (by decide) rfl (fun ls hl => ?_)
    have kJ : W p l e R s m args below meth c H locs cells slots Q (F0 m 81 ls [.int (nI (tw_more (b i)))]) := by
      refine lv_istore (lv' := [(7, .int (nI (tw_more (b i)))), (6, .int (nI (b i))), (0, .ref w), (2, .int (nI e0)), (3, .ref o), (4, .int (nI i)), (5, .int (nI j))]) hx hb dX0_units_81 hl (by decide) rfl (fun ls hl => ?_)
      refine lv_iload hx hb dX0_units_83 (lv_at hl 0 rfl) ?_
      refine lv_bipush (v := nI 9) hx hb dX0_units_85 (by decide +kernel) ?_
      refine n_icmp_eq (tgt := 99) hx hb dX0_units_87 (by decide) (by omega) (by omega) (fun c8 => ?_) (fun c8 => ?_)
      · skip
        refine lv_iconst (v := -1) hx hb dX0_units_99 (by decide +kernel) ?_
        refine kR 100 ls H locs _ g dX0_units_100 hw ?_
        rw [htn (if_pos (Or.inl c8))]
        exact rfl
      refine lv_iload hx hb dX0_units_90 (lv_at hl 5 rfl) ?_
      refine lv_iload hx hb dX0_units_92 (lv_at hl 0 rfl) ?_
      refine n_iadd (r := i + (tw_more (b i))) hx hb dX0_units_94 rfl ?_
      refine lv_iload_n hx hb dX0_units_95 rfl (lv_at hl 3 rfl) ?_
      refine n_icmp_lt (tgt := 101) hx hb dX0_units_96 (by decide) (by omega) (by omega) (fun c7 => ?_) (fun c7 => ?_)
      rotate_left
      · skip
        refine lv_iconst (v := -1) hx hb dX0_units_99 (by decide +kernel) ?_
        refine kR 100 ls H locs _ g dX0_units_100 hw ?_
        rw [htn (if_pos (Or.inr c7))]
        exact rfl
      have kK : W p l e R s m args below meth c H locs cells slots Q (F0 m 144 ls [.int (nI (tw_v0 (b i)))]) := by
        refine lv_istore (lv' := [(8, .int (nI (tw_v0 (b i)))), (7, .int (nI (tw_more (b i)))), (6, .int (nI (b i))), (0, .ref w), (2, .int (nI e0)), (3, .ref o), (4, .int (nI i)), (5, .int (nI j))]) hx hb dX0_units_144 hl (by decide) rfl (fun ls hl => ?_)
        refine lv_iconst (v := nI 1) hx hb dX0_units_146 (by decide +kernel) ?_
        refine lv_istore (lv' := [(9, .int (nI 1)), (8, .int (nI (tw_v0 (b i)))), (7, .int (nI (tw_more (b i)))), (6, .int (nI (b i))), (0, .ref w), (2, .int (nI e0)), (3, .ref o), (4, .int (nI i)), (5, .int (nI j))]) hx hb dX0_units_147 hl (by decide) rfl (fun ls hl => ?_)
        have hl : lv_has ls 13 [(0, .ref w), (2, .int (nI e0)), (3, .ref o), (4, .int (nI i)), (5, .int (nI j)), (6, .int (nI (b i))), (7, .int (nI (tw_more (b i)))), (8, .int (nI (tw_v0 (b i)))), (9, .int (nI 1))] := lv_sub hl [4, 5, 6, 7, 8, 3, 2, 1, 0] rfl
        refine un_inner hx hb hown hts hK hb6 hwf e0 he hw i j c7 (tw_cs b (b i) i (tw_more (b i)) 1 (tw_v0 (b i))) (fun ho pc ls d => ?_) (fun v ho hv ls hl => ?_) (tw_more (b i)) 1 (tw_v0 (b i)) (by omega) (by omega) (tw_v0_bd4 (b i) hy c8) rfl ls hl
        · refine kR pc ls H locs _ g d hw ?_
          rw [htn (by unfold tw_step; rw [if_neg (by omega), ho]; rfl)]
          exact rfl
        have hs : tw_step b i e0 = some (v, tw_more (b i) + 1) := by unfold tw_step; rw [if_neg (by omega), ho]; rfl
        obtain ⟨s1, s2, s3, s4⟩ := tw_step_some hs
        dsimp only at s1 s2 s3 s4
        have h5 := tw_tot c9 hs htot
        dsimp only at h5
        have he2 := tw_enc_len v
        refine lv_iload hx hb dX0_units_290 (lv_at hl 6 rfl) ?_
        refine lv_ldc (v := 65536) hx hb hown (hts _ q47) dX0_units_292 ?_
        refine n_top (y := (nI 65536)) (by decide +kernel) ?_
        refine n_icmp_ge (tgt := 309) hx hb dX0_units_294 (by decide) (by omega) (by omega) (fun c6 => ?_) (fun c6 => ?_)
        rotate_left
        · skip
          rw [if_pos c6] at he2
          refine lv_aload_n hx hb dX0_units_297 rfl (lv_at hl 2 rfl) ?_
          refine lv_iload hx hb dX0_units_298 (lv_at hl 4 rfl) ?_
          refine lv_iload hx hb dX0_units_300 (lv_at hl 6 rfl) ?_
          refine tw_iast (X1 := tw_UT dN dO w o wf (upd g j (nI v))) hx hb hK hw 1 1 rfl rfl (by omega) (by decide) rfl dX0_units_302 (fun H locs hw => ?_)
          refine lv_iinc (lv' := [(5, .int (nI (j + 1))), (0, .ref w), (2, .int (nI e0)), (3, .ref o), (4, .int (nI i)), (7, .int (nI (tw_more (b i)))), (8, .int (nI v))]) (k := 4) hx hb dX0_units_303 hl rfl (n_inc1 rfl) (by decide) rfl (fun ls hl => ?_)
          refine lv_goto (tgt := 345) hx hb dX0_units_306 (by decide) ?_
          refine lv_iload hx hb dX0_units_345 (lv_at hl 4 rfl) ?_
          refine lv_iload hx hb dX0_units_347 (lv_at hl 5 rfl) ?_
          refine lv_iconst (v := nI 1) hx hb dX0_units_349 (by decide +kernel) ?_
          refine n_iadd (r := (tw_more (b i)) + 1) hx hb dX0_units_350 rfl ?_
          refine n_iadd (r := i + ((tw_more (b i)) + 1)) hx hb dX0_units_351 rfl ?_
          refine lv_istore (lv' := [(4, .int (nI (i + ((tw_more (b i)) + 1)))), (5, .int (nI (j + 1))), (0, .ref w), (2, .int (nI e0)), (3, .ref o), (7, .int (nI (tw_more (b i)))), (8, .int (nI v))]) hx hb dX0_units_352 hl (by decide) rfl (fun ls hl => ?_)
          refine lv_goto (tgt := 6) hx hb dX0_units_354 (by decide) ?_
          have hl : lv_has ls 13 [(0, .ref w), (2, .int (nI e0)), (3, .ref o), (4, .int (nI (i + ((tw_more (b i)) + 1)))), (5, .int (nI (j + 1)))] := lv_sub hl [2, 3, 4, 0, 1] rfl
          refine ih (i + (tw_more (b i) + 1)) (j + 1) (acc ++ [v]) _ H locs ls (by omega) (by omega) (by simp [hj]) (by omega) (hj ▸ tw_acc hacc v) ?_ hw hl
          rw [show tw_enc v = [v] from if_pos c6] at h5
          exact h5
        rw [if_neg (by omega)] at he2
        refine lv_aload_n hx hb dX0_units_309 rfl (lv_at hl 2 rfl) ?_
        refine lv_iload hx hb dX0_units_310 (lv_at hl 4 rfl) ?_
        refine lv_ldc (v := 55296) hx hb hown (hts _ q48) dX0_units_312 ?_
        refine n_top (y := (nI 55296)) (by decide +kernel) ?_
        refine lv_iload hx hb dX0_units_314 (lv_at hl 6 rfl) ?_
        refine lv_ldc (v := 65536) hx hb hown (hts _ q47) dX0_units_316 ?_
        refine n_top (y := (nI 65536)) (by decide +kernel) ?_
        refine n_isub (r := v - 65536) hx hb dX0_units_318 (by omega) rfl ?_
        refine lv_bipush (v := nI 10) hx hb dX0_units_319 (by decide +kernel) ?_
        refine n_ishr (r := (v - 65536) / 1024) hx hb dX0_units_321 (by omega) (by decide) rfl ?_
        refine n_iadd (r := 55296 + ((v - 65536) / 1024)) hx hb dX0_units_322 rfl ?_
        refine tw_iast (X1 := tw_UT dN dO w o wf (upd g j (nI (55296 + ((v - 65536) / 1024))))) hx hb hK hw 1 1 rfl rfl (by omega) (by decide) rfl dX0_units_323 (fun H locs hw => ?_)
        refine lv_aload_n hx hb dX0_units_324 rfl (lv_at hl 2 rfl) ?_
        refine lv_iload hx hb dX0_units_325 (lv_at hl 4 rfl) ?_
        refine lv_iconst (v := nI 1) hx hb dX0_units_327 (by decide +kernel) ?_
        refine n_iadd (r := j + 1) hx hb dX0_units_328 rfl ?_
        refine lv_ldc (v := 56320) hx hb hown (hts _ q49) dX0_units_329 ?_
        refine n_top (y := (nI 56320)) (by decide +kernel) ?_
        refine lv_iload hx hb dX0_units_331 (lv_at hl 6 rfl) ?_
        refine lv_ldc (v := 65536) hx hb hown (hts _ q47) dX0_units_333 ?_
        refine n_top (y := (nI 65536)) (by decide +kernel) ?_
        refine n_isub (r := v - 65536) hx hb dX0_units_335 (by omega) rfl ?_
        refine lv_sipush (v := nI 1023) hx hb dX0_units_336 (by decide +kernel) ?_
        refine n_iandN (r := (v - 65536) % 1024) hx hb dX0_units_339 10 (by omega) (by decide +kernel) rfl ?_
        refine n_iadd (r := 56320 + ((v - 65536) % 1024)) hx hb dX0_units_340 rfl ?_
        refine tw_iast (X1 := tw_UT dN dO w o wf (upd (upd g j (nI (55296 + ((v - 65536) / 1024)))) (j + 1) (nI (56320 + ((v - 65536) % 1024))))) hx hb hK hw 1 1 rfl rfl (by omega) (by decide) rfl dX0_units_341 (fun H locs hw => ?_)
        refine lv_iinc (lv' := [(5, .int (nI (j + 2))), (0, .ref w), (2, .int (nI e0)), (3, .ref o), (4, .int (nI i)), (7, .int (nI (tw_more (b i)))), (8, .int (nI v))]) (k := 4) hx hb dX0_units_342 hl rfl (n_inc2 rfl) (by decide) rfl (fun ls hl => ?_)
        refine lv_iload hx hb dX0_units_345 (lv_at hl 4 rfl) ?_
        refine lv_iload hx hb dX0_units_347 (lv_at hl 5 rfl) ?_
        refine lv_iconst (v := nI 1) hx hb dX0_units_349 (by decide +kernel) ?_
        refine n_iadd (r := (tw_more (b i)) + 1) hx hb dX0_units_350 rfl ?_
        refine n_iadd (r := i + ((tw_more (b i)) + 1)) hx hb dX0_units_351 rfl ?_
        refine lv_istore (lv' := [(4, .int (nI (i + ((tw_more (b i)) + 1)))), (5, .int (nI (j + 2))), (0, .ref w), (2, .int (nI e0)), (3, .ref o), (7, .int (nI (tw_more (b i)))), (8, .int (nI v))]) hx hb dX0_units_352 hl (by decide) rfl (fun ls hl => ?_)
        refine lv_goto (tgt := 6) hx hb dX0_units_354 (by decide) ?_
        have hl : lv_has ls 13 [(0, .ref w), (2, .int (nI e0)), (3, .ref o), (4, .int (nI (i + ((tw_more (b i)) + 1)))), (5, .int (nI (j + 2)))] := lv_sub hl [2, 3, 4, 0, 1] rfl
        have e5 : tw_enc v = [55296 + (v - 65536) / 1024, 56320 + (v - 65536) % 1024] := if_neg (by omega)
        have h6 := tw_acc2 hj hacc (55296 + (v - 65536) / 1024) (56320 + (v - 65536) % 1024)
        rw [e5] at h5
        exact ih (i + (tw_more (b i) + 1)) (j + 2) (acc ++ [55296 + (v - 65536) / 1024, 56320 + (v - 65536) % 1024]) _ H locs ls (by omega) (by omega) (by simp [hj]) (by omega) h6 h5 hw hl
      refine lv_iload hx hb dX0_units_101 (lv_at hl 0 rfl) ?_
      refine n_if_ne (tgt := 111) hx hb dX0_units_103 (by decide) (by omega) (fun c6 => ?_) (fun c6 => ?_)
      · skip
        refine lv_iload hx hb dX0_units_111 (lv_at hl 0 rfl) ?_
        refine lv_iconst (v := nI 1) hx hb dX0_units_113 (by decide +kernel) ?_
        refine n_icmp_ne (tgt := 125) hx hb dX0_units_114 (by decide) (by omega) (by omega) (fun c5 => ?_) (fun c5 => ?_)
        · skip
          refine lv_iload hx hb dX0_units_125 (lv_at hl 0 rfl) ?_
          refine lv_iconst (v := nI 2) hx hb dX0_units_127 (by decide +kernel) ?_
          refine n_icmp_ne (tgt := 139) hx hb dX0_units_128 (by decide) (by omega) (by omega) (fun c4 => ?_) (fun c4 => ?_)
          · skip
            refine lv_iload hx hb dX0_units_139 (lv_at hl 1 rfl) ?_
            refine lv_bipush (v := nI 7) hx hb dX0_units_141 (by decide +kernel) ?_
            refine n_iandN (r := (b i) % 8) hx hb dX0_units_143 3 (by omega) (by decide +kernel) rfl ?_
            exact n_top (y := (nI (tw_v0 (b i)))) (congrArg nI (tw_v0_3 c6 c5 c4).symm) kK
          · skip
            refine lv_iload hx hb dX0_units_131 (lv_at hl 1 rfl) ?_
            refine lv_bipush (v := nI 15) hx hb dX0_units_133 (by decide +kernel) ?_
            refine n_iandN (r := (b i) % 16) hx hb dX0_units_135 4 (by omega) (by decide +kernel) rfl ?_
            refine lv_goto (tgt := 144) hx hb dX0_units_136 (by decide) ?_
            exact n_top (y := (nI (tw_v0 (b i)))) (congrArg nI (tw_v0_2 c4).symm) kK
        · skip
          refine lv_iload hx hb dX0_units_117 (lv_at hl 1 rfl) ?_
          refine lv_bipush (v := nI 31) hx hb dX0_units_119 (by decide +kernel) ?_
          refine n_iandN (r := (b i) % 32) hx hb dX0_units_121 5 (by omega) (by decide +kernel) rfl ?_
          refine lv_goto (tgt := 144) hx hb dX0_units_122 (by decide) ?_
          exact n_top (y := (nI (tw_v0 (b i)))) (congrArg nI (tw_v0_1 c5).symm) kK
      · skip
        refine lv_iload hx hb dX0_units_106 (lv_at hl 1 rfl) ?_
        refine lv_goto (tgt := 144) hx hb dX0_units_108 (by decide) ?_
        exact n_top (y := (nI (tw_v0 (b i)))) (congrArg nI (tw_v0_0 c6).symm) kK
    refine lv_iload hx hb dX0_units_18 (lv_at hl 0 rfl) ?_
    refine lv_sipush (v := nI 128) hx hb dX0_units_20 (by decide +kernel) ?_
    refine n_icmp_ge (tgt := 30) hx hb dX0_units_23 (by decide) (by omega) (by omega) (fun c8 => ?_) (fun c8 => ?_)
    rotate_left
    · skip
      refine lv_iconst (v := nI 0) hx hb dX0_units_26 (by decide +kernel) ?_
      refine lv_goto (tgt := 81) hx hb dX0_units_27 (by decide) ?_
      exact n_top (y := (nI (tw_more (b i)))) (congrArg nI (tw_more_0 c8).symm) kJ
    refine lv_iload hx hb dX0_units_30 (lv_at hl 0 rfl) ?_
    refine lv_sipush (v := nI 194) hx hb dX0_units_32 (by decide +kernel) ?_
    refine n_icmp_ge (tgt := 43) hx hb dX0_units_35 (by decide) (by omega) (by omega) (fun c7 => ?_) (fun c7 => ?_)
    rotate_left
    · skip
      refine lv_bipush (v := nI 9) hx hb dX0_units_38 (by decide +kernel) ?_
      refine lv_goto (tgt := 81) hx hb dX0_units_40 (by decide) ?_
      exact n_top (y := (nI (tw_more (b i)))) (congrArg nI (tw_more_x c8 c7).symm) kJ
    refine lv_iload hx hb dX0_units_43 (lv_at hl 0 rfl) ?_
    refine lv_sipush (v := nI 224) hx hb dX0_units_45 (by decide +kernel) ?_
    refine n_icmp_ge (tgt := 55) hx hb dX0_units_48 (by decide) (by omega) (by omega) (fun c6 => ?_) (fun c6 => ?_)
    rotate_left
    · skip
      refine lv_iconst (v := nI 1) hx hb dX0_units_51 (by decide +kernel) ?_
      refine lv_goto (tgt := 81) hx hb dX0_units_52 (by decide) ?_
      exact n_top (y := (nI (tw_more (b i)))) (congrArg nI (tw_more_1 c7 c6).symm) kJ
    refine lv_iload hx hb dX0_units_55 (lv_at hl 0 rfl) ?_
    refine lv_sipush (v := nI 240) hx hb dX0_units_57 (by decide +kernel) ?_
    refine n_icmp_ge (tgt := 67) hx hb dX0_units_60 (by decide) (by omega) (by omega) (fun c5 => ?_) (fun c5 => ?_)
    rotate_left
    · skip
      refine lv_iconst (v := nI 2) hx hb dX0_units_63 (by decide +kernel) ?_
      refine lv_goto (tgt := 81) hx hb dX0_units_64 (by decide) ?_
      exact n_top (y := (nI (tw_more (b i)))) (congrArg nI (tw_more_2 c6 c5).symm) kJ
    refine lv_iload hx hb dX0_units_67 (lv_at hl 0 rfl) ?_
    refine lv_sipush (v := nI 245) hx hb dX0_units_69 (by decide +kernel) ?_
    refine n_icmp_ge (tgt := 79) hx hb dX0_units_72 (by decide) (by omega) (by omega) (fun c4 => ?_) (fun c4 => ?_)
    rotate_left
    · skip
      refine lv_iconst (v := nI 3) hx hb dX0_units_75 (by decide +kernel) ?_
      refine lv_goto (tgt := 81) hx hb dX0_units_76 (by decide) ?_
      exact n_top (y := (nI (tw_more (b i)))) (congrArg nI (tw_more_3 c5 c4).symm) kJ
    refine lv_bipush (v := nI 9) hx hb dX0_units_79 (by decide +kernel) ?_
    exact n_top (y := (nI (tw_more (b i)))) (congrArg nI (tw_more_9 c4).symm) kJ
set_option maxHeartbeats 4000000 in
set_option maxRecDepth 100000 in
/-- units(w, f, e0, o) -/
theorem met_units (l : Launch) (dC : Nat → ClassId) (dI : Nat → Nat → Nat) (dN dO : ClassId) (w o sz : Nat) (b : Nat → Nat) (wf g : Nat → Int32) (hb6 : ∀ j, b j < 256) (hwf : ∀ j, j < 40 → wf j = nI (b j)) (f e0 : Nat) (hfe : f ≤ e0) (he : e0 ≤ 40) : Met l yX0_units (ws_ yX0_units cX0_units 13 (some .int)) ({ frames := 0, cells := 0, slots := 0, locals := 0 }) (va_Pc [.ref w, .int (nI f), .int (nI e0), .ref o] (tw_Pre dC dI [(dN, .int), (dO, .int)] (tw_UT dN dO w o wf g) sz)) (va_Qi (fun (r : Int32) (g' : Nat → Int32) => tw_out (tw_dec b f e0) r g') (fun g' T => tw_End dC dI (va_A (tw_UT dN dO w o wf g) sz) (tw_UT dN dO w o wf g') T) (va_A (tw_UT dN dO w o wf g) sz)) 0 0 (va_A (tw_UT dN dO w o wf g) sz) := by
  refine Met.ofW (cc := cX0_units) (maxL := 13) (ret := (some .int)) (by decide) rfl ?_
  intro p e s m args below meth c s₁ B hml hv
  obtain ⟨rfl, hsz, hP, hK, hD0, hT⟩ := hv
  have hx := B.exec
  have hb := B.bytes
  have hr := B.returns
  have hts := atoms_spec (ws := ws_ yX0_units cX0_units 13 (some .int)) B.pre
  have hts : ∀ w ∈ lw_all, w.before _ s = true := fun w h => hts w (List.mem_cons_of_mem _ h)
  have hown : s.vm.findClass RX0 = some m.cls := findClass_of_methodNamed B.named
  have hlocks := B.notSynchronized
  subst hsz
  have hD := hD0.self (sz := s.heap.size)
  have hA : ∀ q9 : Nat, s.heap.size ≤ q9 → va_A (tw_UT dN dO w o wf g) s.heap.size q9 := fun q9 h9 => Or.inr h9
  generalize hAe : va_A (tw_UT dN dO w o wf g) s.heap.size = A at hD hA hT ⊢
  have hw : tw_Wd dC dI A s (tw_UT dN dO w o wf g) s.heap [] := ⟨hP, hD, va_S.rf⟩
  clear hP hD hD0
  have hl := lv_entry ([.ref w, .int (nI f), .int (nI e0), .ref o]) (n := 13) (Nat.le_of_ble_eq_true rfl)
  rw [lg_entry_eq]
  generalize (lg_sl ([.ref w, .int (nI f), .int (nI e0), .ref o]) ++ List.replicate (13 - (lg_sl ([.ref w, .int (nI f), .int (nI e0), .ref o])).length) Slot.unset).toArray = ls at hl ⊢
  have hl : lv_has ls 13 [(0, .ref w), (1, .int (nI f)), (2, .int (nI e0)), (3, .ref o)] := hl
  refine lv_iload_n hx hb dX0_units_0 rfl (lv_at hl 1 rfl) ?_
  refine lv_istore (lv' := [(4, .int (nI f)), (0, .ref w), (1, .int (nI f)), (2, .int (nI e0)), (3, .ref o)]) hx hb dX0_units_1 hl (by decide) rfl (fun ls hl => ?_)
  refine lv_iconst (v := nI 0) hx hb dX0_units_3 (by decide +kernel) ?_
  refine lv_istore (lv' := [(5, .int (nI 0)), (4, .int (nI f)), (0, .ref w), (1, .int (nI f)), (2, .int (nI e0)), (3, .ref o)]) hx hb dX0_units_4 hl (by decide) rfl (fun ls hl => ?_)
  have hl : lv_has ls 13 [(0, .ref w), (2, .int (nI e0)), (3, .ref o), (4, .int (nI f)), (5, .int (nI 0))] := lv_sub hl [2, 4, 5, 1, 0] rfl
  refine un_outer hx hb hown hts hK hb6 hwf e0 he f (tw_dec b f e0) (fun pc ls H locs r g' d hw ho => ?_) (e0 + 1) f 0 [] g s.heap [] ls (by omega) (by omega) rfl (by omega) (fun k hk => absurd hk (Nat.not_lt_zero _)) ?_ hw hl
  · exact tw_iret (Y1 := fun g' => tw_UT dN dO w o wf g') g' hx hb hr hlocks hw ho d
  · unfold tw_dec
    cases tw_us b e0 (e0 + 1) f <;> rfl
end
section
/-! the law's calls, a row each -/
set_option maxRecDepth 100000
/-- what holds all through a method of the law: machine, code, words, room, the tables -/
def tw_C (p : Program) (c : Code) (s : State) (m : MethodId) (args : Array Value) (R : Room) (A : Nat → Prop) (cc : ByteArray) (nL : Nat) : Prop := (p.tables.exec = Jvm.exec ∧ c.code = cc ∧ c.maxLocals = nL ∧ s.vm.findClass RX0 = some m.cls ∧ ∀ w ∈ lw_all, w.before args s = true) ∧ 3 ≤ R.frames ∧ 100 ≤ R.locals ∧ tw_TB A s s.heap ∧ ∀ q, s.heap.size ≤ q → A q
theorem tw_Wd.sub {dC : Nat → ClassId} {dI : Nat → Nat → Nat} {A : Nat → Prop} {s : State} {X X1 : va_W} {H : Heap} {locs : List Loc} (hw : tw_Wd dC dI A s X H locs) (is : List Nat) (hn : va_nd is = true) (h1 : is.filterMap (fun i => X[i]?) = X1) (h2 : is.map (fun i => X[i]?) = X1.map some) : tw_Wd dC dI A s X1 H locs :=
  ⟨hw.1.sub is h1, hw.2.1.sub is hn h2, hw.2.2⟩
theorem tw_empty {dC : Nat → ClassId} {dI : Nat → Nat → Nat} {A : Nat → Prop} {s : State} : tw_Wd dC dI A s [] s.heap [] :=
  ⟨fun _ _ h => absurd h (by simp), ⟨fun _ _ _ _ h => absurd h (by simp), fun _ _ h => absurd h (by simp)⟩, va_S.rf⟩
theorem tw_same {dC : Nat → ClassId} {dI : Nat → Nat → Nat} {A : Nat → Prop} {s : State} {X : va_W} {H H1 : Heap} {locs locs1 : List Loc} (hw : tw_Wd dC dI A s X H locs) (hk : ∀ q : Nat, q < H.size → ¬ False → H1[q]? = H[q]?) (hS : va_S A s.heap H1 locs1) : tw_Wd dC dI A s X H1 locs1 :=
  ⟨hw.1.kept (fun k q hq => hk q.1 (va_at.lt (hw.1 k q hq)) (fun h => h)), hw.2.1, hS⟩
section TK
variable {p : Program} {l : Launch} {e : Env} {R : Room} {s : State} {m : MethodId} {args : Array Value} {below : List Frame} {meth : Method} {c : Code} {H : Heap} {locs : List Loc} {cells slots : Nat} {Q : State → Prop} {cc : ByteArray} {pc nL : Nat} {ls : Array Slot} {rest : List Value} {dC : Nat → ClassId} {dI : Nat → Nat → Nat} {A : Nat → Prop} {X : va_W} {tys : List (ClassId × FieldType)} {dB dH : ClassId} {h t q : Nat} {b : Nat → Nat} {g : Nat → Int32} {n : Nat} {rd : Int32}
theorem c_lay {x : Int32} (C : tw_C p c s m args R A cc nL) (hcap : cells ≤ R.cells ∧ slots ≤ R.slots) (hn : n ≤ 1024) (hK : va_K (dC, dI) vwCl [(dB, .byte), (dH, .char)] s) (hw : tw_Wd dC dI A s (X ++ tw_WL dB dH h t q b g n rd) H locs) (hls : ls.size = nL) (hst : (rest.map fun v => v.category).sum ≤ 8) (d : decode cc pc = .ok (.invokevirtual 15, 3)) (kk : ∀ (H1 : Heap) (locs1 : List Loc), tw_Wd dC dI A s (X ++ tw_WL dB dH h t q (tw_layB b n x) g (tw_layN n x) rd) H1 locs1 → W p l e R s m args below meth c H1 locs1 cells slots Q (F0 m (pc + 3) ls (.int (tw_layR n x) :: rest))) : W p l e R s m args below meth c H locs cells slots Q (F0 m pc ls (.int x :: .ref h :: rest)) := by
  obtain ⟨hc, hf, hlc, hT, hA⟩ := C
  refine tw_calli (X := X) (Y := tw_WL dB dH h t q b g n rd) (Y1 := fun _ => tw_WL dB dH h t q (tw_layB b n x) g (tw_layN n x) rd) (va_runV (As := [.int x]) (rest := rest) hc (met_lay l dC dI dB dH h t q H.size b g n rd x hn) (cwV 1 hc.2.2.2.2 (lw_V q30 q31 q32 q1 q33) rfl rfl rfl (by decide +kernel) ⟨Nat.le_trans (by decide) hf, Nat.le_trans (by decide) hlc⟩) (tw_preV (X := X) (Y := tw_WL dB dH h t q b g n rd) rfl hw hA hT hK) rfl rfl hls rfl (lv_room hst) d ⟨hcap.1, hcap.2⟩) hw hA (fun r u H1 locs1 hr hw1 => ?_)
  have hr : r = tw_layR n x := hr
  subst hr
  exact kk H1 locs1 hw1
theorem c_spoil {at0 : Nat} {x : Int32} (C : tw_C p c s m args R A cc nL) (hcap : cells ≤ R.cells ∧ slots ≤ R.slots) (hn : n ≤ 1024) (h0 : 0 < n) (hat : at0 < 2 ^ 31) (hK : va_K (dC, dI) vwCl [(dB, .byte), (dH, .char)] s) (hw : tw_Wd dC dI A s (X ++ tw_WL dB dH h t q b g n rd) H locs) (hls : ls.size = nL) (hst : (rest.map fun v => v.category).sum ≤ 8) (d : decode cc pc = .ok (.invokevirtual 25, 3)) (kk : ∀ (H1 : Heap) (locs1 : List Loc), tw_Wd dC dI A s (X ++ tw_WL dB dH h t q (tw_up b (at0 % n) (x.toBitVec.toNat % 256)) g n rd) H1 locs1 → W p l e R s m args below meth c H1 locs1 cells slots Q (F0 m (pc + 3) ls rest)) : W p l e R s m args below meth c H locs cells slots Q (F0 m pc ls (.int x :: .int (nI at0) :: .ref h :: rest)) := by
  obtain ⟨hc, hf, hlc, hT, hA⟩ := C
  refine tw_callv (X := X) (Y := tw_WL dB dH h t q b g n rd) (Y1 := fun _ => tw_WL dB dH h t q (tw_up b (at0 % n) (x.toBitVec.toNat % 256)) g n rd) (va_runV (As := [.int (nI at0), .int x]) (rest := rest) hc (met_spoil l dC dI dB dH h t q H.size b g n rd at0 x hn h0 hat) (cwV 2 hc.2.2.2.2 (lw_V q39 q40 q41 q1 q42) rfl rfl rfl (by decide +kernel) ⟨Nat.le_trans (by decide) hf, Nat.le_trans (by decide) hlc⟩) (tw_preV (X := X) (Y := tw_WL dB dH h t q b g n rd) rfl hw hA hT hK) rfl rfl hls rfl (lv_room hst) d ⟨hcap.1, hcap.2⟩) hw hA (fun u H1 locs1 hr hw1 => ?_)
  exact kk H1 locs1 hw1
theorem c_cut {k : Nat} (C : tw_C p c s m args R A cc nL) (hcap : cells ≤ R.cells ∧ slots ≤ R.slots) (hn : n ≤ 1024) (hk : k < 2 ^ 31) (hK : va_K (dC, dI) vwCl [(dB, .byte), (dH, .char)] s) (hw : tw_Wd dC dI A s (X ++ tw_WL dB dH h t q b g n rd) H locs) (hls : ls.size = nL) (hst : (rest.map fun v => v.category).sum ≤ 8) (d : decode cc pc = .ok (.invokevirtual 53, 3)) (kk : ∀ (H1 : Heap) (locs1 : List Loc), tw_Wd dC dI A s (X ++ tw_WL dB dH h t q b g (k % (n + 1)) rd) H1 locs1 → W p l e R s m args below meth c H1 locs1 cells slots Q (F0 m (pc + 3) ls rest)) : W p l e R s m args below meth c H locs cells slots Q (F0 m pc ls (.int (nI k) :: .ref h :: rest)) := by
  obtain ⟨hc, hf, hlc, hT, hA⟩ := C
  refine tw_callv (X := X) (Y := tw_WL dB dH h t q b g n rd) (Y1 := fun _ => tw_WL dB dH h t q b g (k % (n + 1)) rd) (va_runV (As := [.int (nI k)]) (rest := rest) hc (met_cut l dC dI dB dH h t q H.size b g n rd k hn hk) (cwV 1 hc.2.2.2.2 (lw_V q85 q86 q87 q1 q88) rfl rfl rfl (by decide +kernel) ⟨Nat.le_trans (by decide) hf, Nat.le_trans (by decide) hlc⟩) (tw_preV (X := X) (Y := tw_WL dB dH h t q b g n rd) rfl hw hA hT hK) rfl rfl hls rfl (lv_room hst) d ⟨hcap.1, hcap.2⟩) hw hA (fun u H1 locs1 hr hw1 => ?_)
  exact kk H1 locs1 hw1
theorem c_size (C : tw_C p c s m args R A cc nL) (hcap : cells ≤ R.cells ∧ slots ≤ R.slots) (hK : va_K (dC, dI) vwCl [(dB, .byte), (dH, .char)] s) (hw : tw_Wd dC dI A s (X ++ tw_WL dB dH h t q b g n rd) H locs) (hls : ls.size = nL) (hst : (rest.map fun v => v.category).sum ≤ 8) (d : decode cc pc = .ok (.invokevirtual 44, 3)) (kk : ∀ (H1 : Heap) (locs1 : List Loc), tw_Wd dC dI A s (X ++ tw_WL dB dH h t q b g n rd) H1 locs1 → W p l e R s m args below meth c H1 locs1 cells slots Q (F0 m (pc + 3) ls (.int (nI n) :: rest))) : W p l e R s m args below meth c H locs cells slots Q (F0 m pc ls (.ref h :: rest)) := by
  obtain ⟨hc, hf, hlc, hT, hA⟩ := C
  refine tw_calli (X := X) (Y := tw_WL dB dH h t q b g n rd) (Y1 := fun _ => tw_WL dB dH h t q b g n rd) (va_runV (As := []) (rest := rest) hc (met_size l dC dI dB dH h t q H.size b g n rd) (cwV 0 hc.2.2.2.2 (lw_V q76 q77 q78 q1 q79) rfl rfl rfl (by decide +kernel) ⟨Nat.le_trans (by decide) hf, Nat.le_trans (by decide) hlc⟩) (tw_preV (X := X) (Y := tw_WL dB dH h t q b g n rd) rfl hw hA hT hK) rfl rfl hls rfl (lv_room hst) d ⟨hcap.1, hcap.2⟩) hw hA (fun r u H1 locs1 hr hw1 => ?_)
  have hr : r = nI n := hr
  subst hr
  exact kk H1 locs1 hw1
theorem c_letter {i : Nat} (C : tw_C p c s m args R A cc nL) (hcap : cells ≤ R.cells ∧ slots ≤ R.slots) (hi : i < 2 ^ 31) (hrd : rd = -1 ∨ ∃ k, k ≤ 1024 ∧ rd = nI k) (hK : va_K (dC, dI) vwCl [(dB, .byte), (dH, .char)] s) (hw : tw_Wd dC dI A s (X ++ tw_WL dB dH h t q b g n rd) H locs) (hls : ls.size = nL) (hst : (rest.map fun v => v.category).sum ≤ 8) (d : decode cc pc = .ok (.invokevirtual 37, 3)) (kk : ∀ (H1 : Heap) (locs1 : List Loc), tw_Wd dC dI A s (X ++ tw_WL dB dH h t q b g n rd) H1 locs1 → W p l e R s m args below meth c H1 locs1 cells slots Q (F0 m (pc + 3) ls (.int (tw_let g rd i) :: rest))) : W p l e R s m args below meth c H locs cells slots Q (F0 m pc ls (.int (nI i) :: .ref h :: rest)) := by
  obtain ⟨hc, hf, hlc, hT, hA⟩ := C
  refine tw_calli (X := X) (Y := tw_WL dB dH h t q b g n rd) (Y1 := fun _ => tw_WL dB dH h t q b g n rd) (va_runV (As := [.int (nI i)]) (rest := rest) hc (met_letter l dC dI dB dH h t q H.size b g n rd i hi hrd) (cwV 1 hc.2.2.2.2 (lw_V q64 q65 q66 q1 q67) rfl rfl rfl (by decide +kernel) ⟨Nat.le_trans (by decide) hf, Nat.le_trans (by decide) hlc⟩) (tw_preV (X := X) (Y := tw_WL dB dH h t q b g n rd) rfl hw hA hT hK) rfl rfl hls rfl (lv_room hst) d ⟨hcap.1, hcap.2⟩) hw hA (fun r u H1 locs1 hr hw1 => ?_)
  have hr : r = tw_let g rd i := hr
  subst hr
  exact kk H1 locs1 hw1
theorem c_read {at0 k : Nat} (C : tw_C p c s m args R A cc nL) (hcap : cells ≤ R.cells ∧ slots ≤ R.slots) (hb6 : ∀ j, b j < 256) (hn : n ≤ 1024) (hak : at0 + k ≤ n) (hK : va_K (dC, dI) vwCl [(dB, .byte), (dH, .char)] s) (hw : tw_Wd dC dI A s (X ++ tw_WL dB dH h t q b g n rd) H locs) (hls : ls.size = nL) (hst : (rest.map fun v => v.category).sum ≤ 8) (d : decode cc pc = .ok (.invokevirtual 33, 3)) (kk : ∀ (r : Int32) (g1 : Nat → Int32) (H1 : Heap) (locs1 : List Loc), tw_out (tw_dec b at0 (at0 + k)) r g1 → tw_Wd dC dI A s (X ++ tw_WL dB dH h t q b g1 n r) H1 locs1 → W p l e R s m args below meth c H1 locs1 cells slots Q (F0 m (pc + 3) ls (.int r :: rest))) : W p l e R s m args below meth c H locs cells slots Q (F0 m pc ls (.int (nI k) :: .int (nI at0) :: .ref h :: rest)) := by
  obtain ⟨hc, hf, hlc, hT, hA⟩ := C
  refine tw_calli (X := X) (Y := tw_WL dB dH h t q b g n rd) (Y1 := fun (u : Int32 × (Nat → Int32)) => tw_WL dB dH h t q b u.2 n u.1) (va_runV (As := [.int (nI at0), .int (nI k)]) (rest := rest) hc (met_read l dC dI dB dH h t q H.size b g n rd hb6 at0 k hn hak) (cwV 2 hc.2.2.2.2 (lw_V q50 q51 q52 q1 q53) rfl rfl rfl (by decide +kernel) ⟨Nat.le_trans (by decide) hf, Nat.le_trans (by decide) hlc⟩) (tw_preV (X := X) (Y := tw_WL dB dH h t q b g n rd) rfl hw hA hT hK) rfl rfl hls rfl (lv_room hst) d ⟨hcap.1, hcap.2⟩) hw hA (fun r u H1 locs1 hr hw1 => ?_)
  have hr : u.1 = r ∧ tw_out (tw_dec b at0 (at0 + k)) r u.2 := hr
  obtain ⟨hr1, hr2⟩ := hr
  subst hr1
  exact kk u.1 u.2 H1 locs1 hr2 hw1
theorem c_mk (C : tw_C p c s m args R A cc nL) (hcap : cells + 3 ≤ R.cells ∧ slots + 2052 ≤ R.slots) (hK : va_K (dC, dI) vwCl [] s) (hw : tw_Wd dC dI A s X H locs) (hls : ls.size = nL) (hst : ((Value.ref 0 :: rest).map fun v => v.category).sum ≤ 8) (d1 : decode cc pc = .ok (.new 12, 3)) (d2 : decode cc (pc + 3) = .ok (.dup, 1)) (d3 : decode cc (pc + 3 + 1) = .ok (.invokespecial 14, 3)) (kk : ∀ (h t q : Nat) (dB dH : ClassId) (H1 : Heap) (locs1 : List Loc), va_K (dC, dI) vwCl [(dB, .byte), (dH, .char)] s → tw_Wd dC dI A s (X ++ tw_WL dB dH h t q (fun _ => 0) (fun _ => nI 0) 0 (nI 0)) H1 locs1 → W p l e R s m args below meth c H1 locs1 (cells + 3) (slots + 2052) Q (F0 m (pc + 3 + 1 + 3) ls (.ref h :: rest))) : W p l e R s m args below meth c H locs cells slots Q (F0 m pc ls rest) := by
  obtain ⟨hc, hf, hlc, hT, hA⟩ := C
  refine va_new (ci := 0) (fs := [.null, .null, .int (nI 0), .int (nI 0)]) (C := RX1) (T := TX1) (N := 4) hc.1 hc.2.1 hc.2.2.2.2 in_X1 tyX1 tyX1_ok hc.2.2.2.1 (hc.2.2.2.2 _ q6) (hc.2.2.2.2 _ q7) (hc.2.2.2.2 _ q1) hK hw.1 hw.2.1 hw.2.2 hA rfl (fun j hj => by rcases (show j = 0 ∨ j = 1 ∨ j = 2 ∨ j = 3 by omega) with rfl | rfl | rfl | rfl <;> rfl) (by omega) (by omega) d1 (fun h H1 hP hD hS => ?_)
  have hw1 : tw_Wd dC dI A s (X ++ tw_New h) H1 locs := ⟨hP, hD, hS⟩
  refine lv_dup hc.1 hc.2.1 d2 rfl ?_
  refine va_callv (va_runI (As := []) (rest := .ref h :: rest) hc (met_init l dC dI h H1.size) (cwI 0 hc.2.2.2.2 (lw_meth q10) rfl rfl rfl (hc.2.2.2.2 _ q1) (hc.2.2.2.2 _ q8) (hc.2.2.2.2 _ q9) rfl (by decide +kernel) ⟨Nat.le_trans (by decide) hf, Nat.le_trans (by decide) hlc⟩) (tw_preS (X := X) (Y := tw_New h) hw1 hA hT hK) rfl rfl hls rfl (lv_room hst) d3 ⟨by omega, by omega⟩) hS (fun q _ h => tw_free hw1 hA q h) (tw_free hw1 hA) (fun u T H2 locs2 ht hvm hp hB hz hk hS2 => ?_)
  obtain ⟨hP1, hK1, hD1⟩ := hB
  rw [ht] at hP1
  refine W.widen (k := cells + 3) (n := slots + 2052) (by omega) (by omega) ?_
  exact kk h u.1 u.2.1 u.2.2.1 u.2.2.2 H2 locs2 (va_K.moved hvm.symm hK1) (tw_join hw1 hA hk hP1 hD1 hS2)
theorem c_cell {b0 L k : Nat} {xs : Nat → Int32} (C : tw_C p c s m args R A cc nL) (hcap : cells ≤ R.cells ∧ slots ≤ R.slots) (hL : L ≤ 40) (hk : k < 2 ^ 31) (hX : va_X b0 L xs s s.heap) (hbl : b0 < s.heap.size) (hbA : ¬ A b0) (hw : tw_Wd dC dI A s X H locs) (hls : ls.size = nL) (hst : (rest.map fun v => v.category).sum ≤ 8) (d : decode cc pc = .ok (.invokestatic 19, 3)) (kk : ∀ (H1 : Heap) (locs1 : List Loc), tw_Wd dC dI A s X H1 locs1 → W p l e R s m args below meth c H1 locs1 cells slots Q (F0 m (pc + 3) ls (.int (if k < L then xs k else nI 0) :: rest))) : W p l e R s m args below meth c H locs cells slots Q (F0 m pc ls (.int (nI k) :: .ref b0 :: rest)) := by
  obtain ⟨hc, hf, hlc, hT, hA⟩ := C
  have hX1 : va_X b0 L xs s H := hX.kept (hw.2.2.2.1 b0 hbl hbA)
  have hbl1 : b0 < H.size := Nat.lt_of_lt_of_le hbl hw.2.2.1
  have hpre : PreS s H (va_Pc [.ref b0, .int (nI k)] (fun U => U.heap.size = H.size ∧ va_X b0 L xs U U.heap ∧ b0 < H.size)) [.ref b0, .int (nI k)] :=
    ⟨fun a U g mk q => ⟨q.1, q.2.1, va_X.moved (u := U) (U := U.calling g mk a) (Vm.Alike.refl U.vm) q.2.2.1, q.2.2.2⟩, fun U hU hW => ⟨rfl, by rw [hU], by rw [hU]; exact hX1.moved hW.alike, hbl1⟩⟩
  refine va_calli (va_runS (As := [.ref b0, .int (nI k)]) (rest := rest) hc (met_cell l b0 L k H.size xs hL hk) (va_cwS 2 hc.2.2.2.2 (lw_S q36 q37 q0 q38) rfl rfl rfl (by decide +kernel) ⟨Nat.le_trans (by decide) hf, Nat.le_trans (by decide) hlc⟩) hpre rfl rfl hls rfl (lv_room hst) d ⟨hcap.1, hcap.2⟩) hw.2.2 (fun q _ h => h.elim) (fun q h => h.elim) (fun r u T H1 locs1 ht hvm hr hB hz hk1 hS => ?_)
  have hr : r = if k < L then xs k else nI 0 := hr
  subst hr
  exact kk H1 locs1 (tw_same hw hk1 hS)
theorem c_point {x : Int32} (C : tw_C p c s m args R A cc nL) (hcap : cells ≤ R.cells ∧ slots ≤ R.slots) (hw : tw_Wd dC dI A s X H locs) (hls : ls.size = nL) (hst : (rest.map fun v => v.category).sum ≤ 8) (d : decode cc pc = .ok (.invokestatic 67, 3)) (kk : ∀ (H1 : Heap) (locs1 : List Loc), tw_Wd dC dI A s X H1 locs1 → W p l e R s m args below meth c H1 locs1 cells slots Q (F0 m (pc + 3) ls (.int (nI (tw_pt x)) :: rest))) : W p l e R s m args below meth c H locs cells slots Q (F0 m pc ls (.int x :: rest)) := by
  obtain ⟨hc, hf, hlc, hT, hA⟩ := C
  have hpre : PreS s H (va_Pc [.int x] (fun _ => True)) [.int x] := ⟨fun a U g mk q => q, fun U hU hW => ⟨rfl, trivial⟩⟩
  refine va_calli (va_runS (As := [.int x]) (rest := rest) hc (met_point l x) (va_cwS 1 hc.2.2.2.2 (lw_S q92 q93 q0 q94) rfl rfl rfl (by decide +kernel) ⟨Nat.le_trans (by decide) hf, Nat.le_trans (by decide) hlc⟩) hpre rfl rfl hls rfl (lv_room hst) d ⟨hcap.1, hcap.2⟩) hw.2.2 (fun q _ h => h.elim) (fun q h => h.elim) (fun r u T H1 locs1 ht hvm hr hB hz hk1 hS => ?_)
  have hr : r = nI (tw_pt x) := hr
  subst hr
  exact kk H1 locs1 (tw_same hw hk1 hS)
theorem c_units {dN dO : ClassId} {w o f e0 : Nat} {wf : Nat → Int32} (C : tw_C p c s m args R A cc nL) (hcap : cells ≤ R.cells ∧ slots ≤ R.slots) (hb6 : ∀ j, b j < 256) (hwf : ∀ j, j < 40 → wf j = nI (b j)) (hfe : f ≤ e0) (he : e0 ≤ 40) (hK : va_K (dC, dI) vwCl [(dN, .int), (dO, .int)] s) (hw : tw_Wd dC dI A s (X ++ tw_UT dN dO w o wf g) H locs) (hls : ls.size = nL) (hst : (rest.map fun v => v.category).sum ≤ 8) (d : decode cc pc = .ok (.invokestatic 29, 3)) (kk : ∀ (r : Int32) (g1 : Nat → Int32) (H1 : Heap) (locs1 : List Loc), tw_out (tw_dec b f e0) r g1 → tw_Wd dC dI A s (X ++ tw_UT dN dO w o wf g1) H1 locs1 → W p l e R s m args below meth c H1 locs1 cells slots Q (F0 m (pc + 3) ls (.int r :: rest))) : W p l e R s m args below meth c H locs cells slots Q (F0 m pc ls (.ref o :: .int (nI e0) :: .int (nI f) :: .ref w :: rest)) := by
  obtain ⟨hc, hf, hlc, hT, hA⟩ := C
  refine tw_calli (X := X) (Y := tw_UT dN dO w o wf g) (Y1 := fun g1 => tw_UT dN dO w o wf g1) (va_runS (As := [.ref w, .int (nI f), .int (nI e0), .ref o]) (rest := rest) hc (met_units l dC dI dN dO w o H.size b wf g hb6 hwf f e0 hfe he) (va_cwS 4 hc.2.2.2.2 (lw_S q44 q45 q0 q46) rfl rfl rfl (by decide +kernel) ⟨Nat.le_trans (by decide) hf, Nat.le_trans (by decide) hlc⟩) (tw_preS (X := X) (Y := tw_UT dN dO w o wf g) hw hA hT hK) rfl rfl hls rfl (lv_room hst) d ⟨hcap.1, hcap.2⟩) hw hA (fun r u H1 locs1 hr hw1 => ?_)
  exact kk r u H1 locs1 hr hw1
end TK
theorem tw_C_of {p : Program} {c : Code} {s : State} {m : MethodId} {args : Array Value} {R : Room} {A : Nat → Prop} {cc : ByteArray} {nL : Nat} (hx : p.tables.exec = Jvm.exec) (hb : c.code = cc) (hml : c.maxLocals = nL) (hown : s.vm.findClass RX0 = some m.cls) (hts : ∀ w ∈ lw_all, w.before args s = true) (h1 : 3 ≤ R.frames) (h2 : 100 ≤ R.locals) (hT : tw_TB A s s.heap) (hA : ∀ q, s.heap.size ≤ q → A q) : tw_C p c s m args R A cc nL := ⟨⟨hx, hb, hml, hown, hts⟩, h1, h2, hT, hA⟩
end
section
/-! the law: letters -/
set_option maxRecDepth 100000
def tw_Us (f : Nat → Nat) (a : Nat) : Nat → List Nat
  | 0 => []
  | k + 1 => tw_Us f a k ++ tw_enc (f (a + k))
def tw_Ts (f : Nat → Nat) (a : Nat) : Nat → List Nat
  | 0 => []
  | k + 1 => tw_Ts f a k ++ tw_utf (f (a + k))
def tw_ps (f : Nat → Nat) (a : Nat) : Nat → List Nat
  | 0 => []
  | k + 1 => tw_ps f a k ++ [f (a + k)]
theorem tw_Us_ps (f : Nat → Nat) (a k : Nat) : (tw_ps f a k).flatMap tw_enc = tw_Us f a k := by
  induction k with
  | zero => rfl
  | succ k ih =>
    show (tw_ps f a k ++ [f (a + k)]).flatMap tw_enc = tw_Us f a k ++ tw_enc (f (a + k))
    rw [List.flatMap_append, ih]
    simp
theorem tw_Ts_ps (f : Nat → Nat) (a k : Nat) : (tw_ps f a k).flatMap tw_utf = tw_Ts f a k := by
  induction k with
  | zero => rfl
  | succ k ih =>
    show (tw_ps f a k ++ [f (a + k)]).flatMap tw_utf = tw_Ts f a k ++ tw_utf (f (a + k))
    rw [List.flatMap_append, ih]
    simp
theorem tw_ps_mem {f : Nat → Nat} {a k v : Nat} (h : v ∈ tw_ps f a k) : ∃ j, v = f j := by
  induction k with
  | zero => exact absurd h (by simp [tw_ps])
  | succ k ih =>
    rcases List.mem_append.mp (show v ∈ tw_ps f a k ++ [f (a + k)] from h) with h | h
    · exact ih h
    · exact ⟨a + k, by simpa using h⟩
theorem tw_dec_Ts {f : Nat → Nat} {b : Nat → Nat} {a k i e : Nat} (hs : ∀ j, tw_sc (f j)) (hat : tw_at b i (tw_Ts f a k)) (he : i + (tw_Ts f a k).length = e) : tw_dec b i e = some (tw_Us f a k) := by
  rw [← tw_Us_ps]
  rw [← tw_Ts_ps] at hat he
  exact tw_dec_utf _ (fun v hv => by obtain ⟨j, rfl⟩ := tw_ps_mem hv; exact hs j) hat he
theorem tw_Us_s0 (f : Nat → Nat) (k : Nat) : tw_Us f 0 (k + 1) = tw_Us f 0 k ++ tw_enc (f k) := by
  show tw_Us f 0 k ++ tw_enc (f (0 + k)) = _
  rw [Nat.zero_add]
theorem tw_Ts_s0 (f : Nat → Nat) (k : Nat) : tw_Ts f 0 (k + 1) = tw_Ts f 0 k ++ tw_utf (f k) := by
  show tw_Ts f 0 k ++ tw_utf (f (0 + k)) = _
  rw [Nat.zero_add]
theorem tw_Us_head (f : Nat → Nat) (a k : Nat) : tw_Us f a (k + 1) = tw_enc (f a) ++ tw_Us f (a + 1) k := by
  induction k with
  | zero => show [] ++ tw_enc (f (a + 0)) = tw_enc (f a) ++ []; simp
  | succ k ih =>
    show tw_Us f a (k + 1) ++ tw_enc (f (a + (k + 1))) = tw_enc (f a) ++ (tw_Us f (a + 1) k ++ tw_enc (f (a + 1 + k)))
    rw [ih, List.append_assoc, show a + (k + 1) = a + 1 + k by omega]
theorem tw_Ts_head (f : Nat → Nat) (a k : Nat) : tw_Ts f a (k + 1) = tw_utf (f a) ++ tw_Ts f (a + 1) k := by
  induction k with
  | zero => show [] ++ tw_utf (f (a + 0)) = tw_utf (f a) ++ []; simp
  | succ k ih =>
    show tw_Ts f a (k + 1) ++ tw_utf (f (a + (k + 1))) = tw_utf (f a) ++ (tw_Ts f (a + 1) k ++ tw_utf (f (a + 1 + k)))
    rw [ih, List.append_assoc, show a + (k + 1) = a + 1 + k by omega]
theorem tw_utf_len (v : Nat) : (tw_utf v).length = if v < 128 then 1 else if v < 2048 then 2 else if v < 65536 then 3 else 4 := by
  unfold tw_utf
  split
  · rfl
  · split
    · rfl
    · split <;> rfl
theorem tw_Us_len (f : Nat → Nat) (a k : Nat) : (tw_Us f a k).length ≤ 2 * k := by
  induction k with
  | zero => exact Nat.le_refl 0
  | succ k ih =>
    show (tw_Us f a k ++ tw_enc (f (a + k))).length ≤ _
    rw [List.length_append, tw_enc_len]
    split <;> omega
theorem tw_Ts_len (f : Nat → Nat) (a k : Nat) : (tw_Ts f a k).length ≤ 4 * k := by
  induction k with
  | zero => exact Nat.le_refl 0
  | succ k ih =>
    show (tw_Ts f a k ++ tw_utf (f (a + k))).length ≤ _
    rw [List.length_append, tw_utf_len]
    split
    · omega
    · split
      · omega
      · split <;> omega
theorem tw_Us_pre (f : Nat → Nat) (a k : Nat) : ∀ d : Nat, ∃ r, tw_Us f a (k + d) = tw_Us f a k ++ r := by
  intro d
  induction d with
  | zero => exact ⟨[], by simp⟩
  | succ d ih =>
    obtain ⟨r, hr⟩ := ih
    exact ⟨r ++ tw_enc (f (a + (k + d))), by
      show tw_Us f a (k + d) ++ tw_enc (f (a + (k + d))) = _
      rw [hr, List.append_assoc]⟩
/-- the units of the k-th letter -/
theorem tw_Us_get {f : Nat → Nat} {a k K j : Nat} (hk : k < K) (hj : j < (tw_enc (f (a + k))).length) : (tw_Us f a k).length + j < (tw_Us f a K).length ∧ (tw_Us f a K).getD ((tw_Us f a k).length + j) 0 = (tw_enc (f (a + k))).getD j 0 := by
  obtain ⟨r, hr⟩ := tw_Us_pre f a (k + 1) (K - (k + 1))
  rw [show k + 1 + (K - (k + 1)) = K by omega] at hr
  have h1 : tw_Us f a K = tw_Us f a k ++ (tw_enc (f (a + k)) ++ r) := by
    rw [hr, ← List.append_assoc]
    rfl
  rw [h1]
  constructor
  · rw [List.length_append, List.length_append]; omega
  · simp [List.getD_eq_getElem?_getD, List.getElem?_append_right, List.getElem?_append_left hj]
theorem tw_let_at {u : List Nat} {r : Int32} {g : Nat → Int32} {i : Nat} (ho : tw_out (some u) r g) (hi : i < u.length) (hu : u.length ≤ 1024) : tw_let g r i = nI (u.getD i 0) := by
  have ho : r = nI u.length ∧ ∀ k, k < u.length → g k = nI (u.getD k 0) := ho
  obtain ⟨rfl, h⟩ := ho
  unfold tw_let
  rw [if_neg (nI_nle (by omega) (by omega)), nI_clamp (by omega), Nat.mod_eq_of_lt hi, h i hi]
theorem tw_out_rd {u : List Nat} {r : Int32} {g : Nat → Int32} (ho : tw_out (some u) r g) (hu : u.length ≤ 1024) : r = -1 ∨ ∃ k, k ≤ 1024 ∧ r = nI k := Or.inr ⟨u.length, hu, ho.1⟩
theorem tw_num_nI {v : Nat} (h : v < 2097152) : tw_num (nI v) = v := by
  unfold tw_num
  rw [pk_tn (by omega), Nat.mod_eq_of_lt h]
theorem tw_enc_0 {v : Nat} (h : v < 65536) : (tw_enc v).getD 0 0 = v := by
  unfold tw_enc
  rw [if_pos h]
  rfl
theorem tw_enc_1 {v : Nat} (h : 65536 ≤ v) : (tw_enc v).getD 0 0 = 55296 + (v - 65536) / 1024 ∧ (tw_enc v).getD 1 0 = 56320 + (v - 65536) % 1024 := by
  unfold tw_enc
  rw [if_neg (by omega)]
  exact ⟨rfl, rfl⟩
/-- the code points that the script draws -/
def tw_f (xs : Nat → Int32) (k : Nat) : Nat := tw_pt (xs k)
theorem tw_f_sc (xs : Nat → Int32) (k : Nat) : tw_sc (tw_f xs k) := tw_pt_sc (xs k)
theorem tw_f_lt (xs : Nat → Int32) (k : Nat) : tw_f xs k < 1114112 := by
  have := tw_f_sc xs k
  unfold tw_sc at this
  omega
set_option maxHeartbeats 4000000 in
/-- the first loop: the letters are laid -/
theorem le_loop1 {p : Program} {l : Launch} {e : Env} {R : Room} {s : State} {m : MethodId} {args : Array Value} {below : List Frame} {meth : Method} {c : Code} {cells slots : Nat} {Q : State → Prop} {dC : Nat → ClassId} {dI : Nat → Nat → Nat} {A : Nat → Prop} {b0 L : Nat} {xs : Nat → Int32} {dB dH : ClassId} {h t q : Nat}
  (hC : tw_C p c s m args R A cX0_letters 9) (hcap : cells ≤ R.cells ∧ slots ≤ R.slots) (hX : va_X b0 L xs s s.heap) (hbl : b0 < s.heap.size) (hbA : ¬ A b0) (hL : L ≤ 40) (hK : va_K (dC, dI) vwCl [(dB, .byte), (dH, .char)] s)
  (kS : ∀ (b : Nat → Nat) (H : Heap) (locs : List Loc) (ls : Array Slot), (∀ j, b j < 256) → tw_at b 0 (tw_Ts (tw_f xs) 0 L) → tw_Wd dC dI A s (tw_WL dB dH h t q b (fun _ => nI 0) ((tw_Ts (tw_f xs) 0 L).length) (nI 0)) H locs → lv_has ls 9 [(0, .ref b0), (1, .ref h), (2, .int (nI L)), (3, .int (nI ((tw_Us (tw_f xs) 0 L).length)))] → W p l e R s m args below meth c H locs cells slots Q (F0 m 76 ls [])) :
    ∀ (k i : Nat) (b : Nat → Nat) (H : Heap) (locs : List Loc) (ls : Array Slot), i + k = L → (∀ j, b j < 256) → tw_at b 0 (tw_Ts (tw_f xs) 0 i) → tw_Wd dC dI A s (tw_WL dB dH h t q b (fun _ => nI 0) ((tw_Ts (tw_f xs) 0 i).length) (nI 0)) H locs → lv_has ls 9 [(0, .ref b0), (1, .ref h), (2, .int (nI L)), (3, .int (nI ((tw_Us (tw_f xs) 0 i).length))), (4, .int (nI i))] → W p l e R s m args below meth c H locs cells slots Q (F0 m 28 ls []) := by
  have hx := hC.1.1
  have hb := hC.1.2.1
  have hown := hC.1.2.2.2.1
  have hts := hC.1.2.2.2.2
  intro k
  induction k with
  | zero =>
    intro i b H locs ls hik hb6 hat hw hl
    obtain rfl : i = L := by omega
    refine lv_iload hx hb dX0_letters_28 (lv_at hl 4 rfl) ?_
    refine lv_iload_n hx hb dX0_letters_30 rfl (lv_at hl 2 rfl) ?_
    refine n_icmp_ge (tgt := 76) hx hb dX0_letters_31 (by decide) (by omega) (by omega) (fun _ => ?_) (fun c9 => absurd c9 (by omega))
    have hl : lv_has ls 9 [(0, .ref b0), (1, .ref h), (2, .int (nI i)), (3, .int (nI ((tw_Us (tw_f xs) 0 i).length)))] := lv_sub hl [0, 1, 2, 3] rfl
    exact kS b H locs ls hb6 hat hw hl
  | succ k ih =>
    intro i b H locs ls hik hb6 hat hw hl
    have hTl := tw_Ts_len (tw_f xs) 0 i
    have hUl := tw_Us_len (tw_f xs) 0 i
    have hpl := tw_f_lt xs i
    refine lv_iload hx hb dX0_letters_28 (lv_at hl 4 rfl) ?_
    refine lv_iload_n hx hb dX0_letters_30 rfl (lv_at hl 2 rfl) ?_
    refine n_icmp_ge (tgt := 76) hx hb dX0_letters_31 (by decide) (by omega) (by omega) (fun c9 => absurd c9 (by omega)) (fun _ => ?_)
    refine lv_aload_n hx hb dX0_letters_34 rfl (lv_at hl 1 rfl) ?_
    refine lv_aload_n hx hb dX0_letters_35 rfl (lv_at hl 0 rfl) ?_
    refine lv_iload hx hb dX0_letters_36 (lv_at hl 4 rfl) ?_
    refine va_sld hx hb hX hbl hbA hw.2.2 (vp_in_nI (by omega) (by omega)) dX0_letters_38 ?_
    refine n_top (y := xs i) (by rw [nI_clamp (by omega)]) ?_
    refine c_point (X := tw_WL dB dH h t q b (fun _ => nI 0) ((tw_Ts (tw_f xs) 0 i).length) (nI 0)) hC hcap hw hl.1 (Nat.le_of_ble_eq_true rfl) dX0_letters_39 (fun H locs hw => ?_)
    have hw : tw_Wd dC dI A s (tw_WL dB dH h t q b (fun _ => nI 0) ((tw_Ts (tw_f xs) 0 i).length) (nI 0)) H locs := hw
    refine n_top (y := nI (tw_f xs i)) rfl ?_
    refine c_lay (X := []) hC hcap (by omega) hK hw hl.1 (Nat.le_of_ble_eq_true rfl) dX0_letters_42 (fun H locs hw => ?_)
    have hw : tw_Wd dC dI A s (tw_WL dB dH h t q (tw_layB b ((tw_Ts (tw_f xs) 0 i).length) (nI (tw_f xs i))) (fun _ => nI 0) (tw_layN ((tw_Ts (tw_f xs) 0 i).length) (nI (tw_f xs i))) (nI 0)) H locs := hw
    have hp : tw_num (nI (tw_f xs i)) = tw_f xs i := tw_num_nI (by omega)
    have e1 : tw_layB b ((tw_Ts (tw_f xs) 0 i).length) (nI (tw_f xs i)) = tw_put b (tw_Ts (tw_f xs) 0 i).length (tw_utf (tw_f xs i)) := by unfold tw_layB; rw [if_pos (by omega), hp]
    have e2 : tw_layN ((tw_Ts (tw_f xs) 0 i).length) (nI (tw_f xs i)) = (tw_Ts (tw_f xs) 0 (i + 1)).length := by unfold tw_layN; rw [if_pos (by omega), hp, tw_Ts_s0, List.length_append]
    have e3 : tw_layR ((tw_Ts (tw_f xs) 0 i).length) (nI (tw_f xs i)) = nI (tw_Ts (tw_f xs) 0 (i + 1)).length := by unfold tw_layR; rw [if_pos (by omega), e2]
    rw [e1, e2] at hw
    refine n_top e3 ?_
    have hTl2 := tw_Ts_len (tw_f xs) 0 (i + 1)
    refine lv_if_ge (tgt := 50) hx hb dX0_letters_45 (by decide) (fun _ => ?_) (fun c9 => absurd (nI_pos' (by omega)) c9)
    have hat2 : tw_at (tw_put b (tw_Ts (tw_f xs) 0 i).length (tw_utf (tw_f xs i))) 0 (tw_Ts (tw_f xs) 0 (i + 1)) := by rw [tw_Ts_s0]; exact tw_at_put hat
    have hb62 : ∀ j, (tw_put b (tw_Ts (tw_f xs) 0 i).length (tw_utf (tw_f xs i))) j < 256 := tw_put_256 _ b _ hb6 (tw_utf_256 (by omega))
    refine lv_iload_n hx hb dX0_letters_50 rfl (lv_at hl 3 rfl) ?_
    refine lv_aload_n hx hb dX0_letters_51 rfl (lv_at hl 0 rfl) ?_
    refine lv_iload hx hb dX0_letters_52 (lv_at hl 4 rfl) ?_
    refine va_sld hx hb hX hbl hbA hw.2.2 (vp_in_nI (by omega) (by omega)) dX0_letters_54 ?_
    refine n_top (y := xs i) (by rw [nI_clamp (by omega)]) ?_
    refine c_point (X := tw_WL dB dH h t q (tw_put b (tw_Ts (tw_f xs) 0 i).length (tw_utf (tw_f xs i))) (fun _ => nI 0) ((tw_Ts (tw_f xs) 0 (i + 1)).length) (nI 0)) hC hcap hw hl.1 (Nat.le_of_ble_eq_true rfl) dX0_letters_55 (fun H locs hw => ?_)
    have hw : tw_Wd dC dI A s (tw_WL dB dH h t q (tw_put b (tw_Ts (tw_f xs) 0 i).length (tw_utf (tw_f xs i))) (fun _ => nI 0) ((tw_Ts (tw_f xs) 0 (i + 1)).length) (nI 0)) H locs := hw
    refine n_top (y := nI (tw_f xs i)) rfl ?_
    have kJ : W p l e R s m args below meth c H locs cells slots Q (F0 m 68 ls [.int (nI ((tw_enc (tw_f xs i)).length)), .int (nI ((tw_Us (tw_f xs) 0 i).length))]) := by
      refine n_iadd (r := (tw_Us (tw_f xs) 0 (i + 1)).length) hx hb dX0_letters_68 (by rw [tw_Us_s0, List.length_append]) ?_
      refine lv_istore_n (lv' := [(3, .int (nI ((tw_Us (tw_f xs) 0 (i + 1)).length))), (0, .ref b0), (1, .ref h), (2, .int (nI L)), (4, .int (nI i))]) hx hb dX0_letters_69 rfl hl (by decide) rfl (fun ls hl => ?_)
      refine lv_iinc (lv' := [(4, .int (nI (i + 1))), (3, .int (nI ((tw_Us (tw_f xs) 0 (i + 1)).length))), (0, .ref b0), (1, .ref h), (2, .int (nI L))]) (k := 4) hx hb dX0_letters_70 hl rfl (n_inc1 rfl) (by decide) rfl (fun ls hl => ?_)
      refine lv_goto (tgt := 28) hx hb dX0_letters_73 (by decide) ?_
      have hl : lv_has ls 9 [(0, .ref b0), (1, .ref h), (2, .int (nI L)), (3, .int (nI ((tw_Us (tw_f xs) 0 (i + 1)).length))), (4, .int (nI (i + 1)))] := lv_sub hl [2, 3, 4, 1, 0] rfl
      exact ih (i + 1) _ H locs ls (by omega) hb62 hat2 hw hl
    refine lv_ldc (v := 65535) hx hb hown (hts _ q82) dX0_letters_58 ?_
    refine n_top (y := (nI 65535)) (by decide +kernel) ?_
    refine n_icmp_le (tgt := 67) hx hb dX0_letters_60 (by decide) (by omega) (by omega) (fun c8 => ?_) (fun c8 => ?_)
    · skip
      refine lv_iconst (v := nI 1) hx hb dX0_letters_67 (by decide +kernel) ?_
      exact n_top (y := (nI ((tw_enc (tw_f xs i)).length))) (congrArg nI (by rw [tw_enc_len, if_pos (by omega)])) kJ
    · skip
      refine lv_iconst (v := nI 2) hx hb dX0_letters_63 (by decide +kernel) ?_
      refine lv_goto (tgt := 68) hx hb dX0_letters_64 (by decide) ?_
      exact n_top (y := (nI ((tw_enc (tw_f xs i)).length))) (congrArg nI (by rw [tw_enc_len, if_neg (by omega)])) kJ
set_option maxHeartbeats 4000000 in
/-- the second loop: each letter's units -/
theorem le_loop2 {p : Program} {l : Launch} {e : Env} {R : Room} {s : State} {m : MethodId} {args : Array Value} {below : List Frame} {meth : Method} {c : Code} {cells slots : Nat} {Q : State → Prop} {dC : Nat → ClassId} {dI : Nat → Nat → Nat} {A : Nat → Prop} {b0 L : Nat} {xs : Nat → Int32} {dB dH : ClassId} {h t q : Nat}
  (hC : tw_C p c s m args R A cX0_letters 9) (hcap : cells ≤ R.cells ∧ slots ≤ R.slots) (hX : va_X b0 L xs s s.heap) (hbl : b0 < s.heap.size) (hbA : ¬ A b0) (hL : L ≤ 40) (hK : va_K (dC, dI) vwCl [(dB, .byte), (dH, .char)] s) {b : Nat → Nat} {g1 : Nat → Int32} {n : Nat} {r : Int32} (ho : tw_out (some (tw_Us (tw_f xs) 0 L)) r g1)
  (kS : ∀ (H : Heap) (locs : List Loc) (ls : Array Slot), tw_Wd dC dI A s (tw_WL dB dH h t q b g1 n r) H locs → lv_has ls 9 [(0, .ref b0), (1, .ref h), (2, .int (nI L)), (3, .int (nI ((tw_Us (tw_f xs) 0 L).length)))] → W p l e R s m args below meth c H locs cells slots Q (F0 m 192 ls [])) :
    ∀ (k i : Nat) (H : Heap) (locs : List Loc) (ls : Array Slot), i + k = L → tw_Wd dC dI A s (tw_WL dB dH h t q b g1 n r) H locs → lv_has ls 9 [(0, .ref b0), (1, .ref h), (2, .int (nI L)), (3, .int (nI ((tw_Us (tw_f xs) 0 L).length))), (4, .int (nI ((tw_Us (tw_f xs) 0 i).length))), (5, .int (nI i))] → W p l e R s m args below meth c H locs cells slots Q (F0 m 97 ls []) := by
  have hUL := tw_Us_len (tw_f xs) 0 L
  have hx := hC.1.1
  have hb := hC.1.2.1
  have hown := hC.1.2.2.2.1
  have hts := hC.1.2.2.2.2
  have hrd := tw_out_rd ho (by omega)
  intro k
  induction k with
  | zero =>
    intro i H locs ls hik hw hl
    refine lv_iload hx hb dX0_letters_97 (lv_at hl 5 rfl) ?_
    refine lv_iload_n hx hb dX0_letters_99 rfl (lv_at hl 2 rfl) ?_
    refine n_icmp_ge (tgt := 192) hx hb dX0_letters_100 (by decide) (by omega) (by omega) (fun _ => ?_) (fun c9 => absurd c9 (by omega))
    have hl : lv_has ls 9 [(0, .ref b0), (1, .ref h), (2, .int (nI L)), (3, .int (nI ((tw_Us (tw_f xs) 0 L).length)))] := lv_sub hl [0, 1, 2, 3] rfl
    exact kS H locs ls hw hl
  | succ k ih =>
    intro i H locs ls hik hw hl
    have hUl := tw_Us_len (tw_f xs) 0 i
    have hpl := tw_f_lt xs i
    have hget : ∀ j, j < (tw_enc (tw_f xs i)).length → (tw_Us (tw_f xs) 0 i).length + j < (tw_Us (tw_f xs) 0 L).length ∧ (tw_Us (tw_f xs) 0 L).getD ((tw_Us (tw_f xs) 0 i).length + j) 0 = (tw_enc (tw_f xs i)).getD j 0 := fun j hj => by
      have h9 := tw_Us_get (f := tw_f xs) (a := 0) (k := i) (K := L) (j := j) (by omega) (by rw [Nat.zero_add]; exact hj)
      rw [Nat.zero_add] at h9
      exact h9
    have hel := tw_enc_len (tw_f xs i)
    have hUs : (tw_Us (tw_f xs) 0 (i + 1)).length = (tw_Us (tw_f xs) 0 i).length + (tw_enc (tw_f xs i)).length := by rw [tw_Us_s0, List.length_append]
    refine lv_iload hx hb dX0_letters_97 (lv_at hl 5 rfl) ?_
    refine lv_iload_n hx hb dX0_letters_99 rfl (lv_at hl 2 rfl) ?_
    refine n_icmp_ge (tgt := 192) hx hb dX0_letters_100 (by decide) (by omega) (by omega) (fun c9 => absurd c9 (by omega)) (fun _ => ?_)
    refine lv_aload_n hx hb dX0_letters_103 rfl (lv_at hl 0 rfl) ?_
    refine lv_iload hx hb dX0_letters_104 (lv_at hl 5 rfl) ?_
    refine va_sld hx hb hX hbl hbA hw.2.2 (vp_in_nI (by omega) (by omega)) dX0_letters_106 ?_
    refine n_top (y := xs i) (by rw [nI_clamp (by omega)]) ?_
    refine c_point (X := tw_WL dB dH h t q b g1 n r) hC hcap hw hl.1 (Nat.le_of_ble_eq_true rfl) dX0_letters_107 (fun H locs hw => ?_)
    have hw : tw_Wd dC dI A s (tw_WL dB dH h t q b g1 n r) H locs := hw
    refine n_top (y := nI (tw_f xs i)) rfl ?_
    refine lv_istore (lv' := [(6, .int (nI (tw_f xs i))), (0, .ref b0), (1, .ref h), (2, .int (nI L)), (3, .int (nI ((tw_Us (tw_f xs) 0 L).length))), (4, .int (nI ((tw_Us (tw_f xs) 0 i).length))), (5, .int (nI i))]) hx hb dX0_letters_110 hl (by decide) rfl (fun ls hl => ?_)
    refine lv_iload hx hb dX0_letters_112 (lv_at hl 0 rfl) ?_
    refine lv_ldc (v := 65536) hx hb hown (hts _ q47) dX0_letters_114 ?_
    refine n_top (y := (nI 65536)) (by decide +kernel) ?_
    refine n_icmp_ge (tgt := 138) hx hb dX0_letters_116 (by decide) (by omega) (by omega) (fun c8 => ?_) (fun c8 => ?_)
    rotate_left
    · rw [if_pos c8] at hel
      obtain ⟨k1, k2⟩ := hget 0 (by omega)
      rw [Nat.add_zero, tw_enc_0 c8] at k2
      rw [Nat.add_zero] at k1
      refine lv_aload_n hx hb dX0_letters_119 rfl (lv_at hl 2 rfl) ?_
      refine lv_iload hx hb dX0_letters_120 (lv_at hl 5 rfl) ?_
      refine c_letter (X := []) hC hcap (by omega) hrd hK hw hl.1 (Nat.le_of_ble_eq_true rfl) dX0_letters_122 (fun H locs hw => ?_)
      have hw : tw_Wd dC dI A s (tw_WL dB dH h t q b g1 n r) H locs := hw
      refine n_top (y := (nI (tw_f xs i))) (by rw [tw_let_at ho k1 (by omega), k2]) ?_
      refine lv_iload hx hb dX0_letters_125 (lv_at hl 0 rfl) ?_
      refine n_eqT (tgt := 132) hx hb dX0_letters_127 (by decide) rfl ?_
      refine lv_iinc (lv' := [(4, .int (nI ((tw_Us (tw_f xs) 0 (i + 1)).length))), (6, .int (nI (tw_f xs i))), (0, .ref b0), (1, .ref h), (2, .int (nI L)), (3, .int (nI ((tw_Us (tw_f xs) 0 L).length))), (5, .int (nI i))]) (k := 5) hx hb dX0_letters_132 hl rfl (n_inc1 (by rw [hUs, hel])) (by decide) rfl (fun ls hl => ?_)
      refine lv_goto (tgt := 186) hx hb dX0_letters_135 (by decide) ?_
      refine lv_iinc (lv' := [(5, .int (nI (i + 1))), (4, .int (nI ((tw_Us (tw_f xs) 0 (i + 1)).length))), (6, .int (nI (tw_f xs i))), (0, .ref b0), (1, .ref h), (2, .int (nI L)), (3, .int (nI ((tw_Us (tw_f xs) 0 L).length)))]) (k := 6) hx hb dX0_letters_186 hl rfl (n_inc1 rfl) (by decide) rfl (fun ls hl => ?_)
      refine lv_goto (tgt := 97) hx hb dX0_letters_189 (by decide) ?_
      have hl : lv_has ls 9 [(0, .ref b0), (1, .ref h), (2, .int (nI L)), (3, .int (nI ((tw_Us (tw_f xs) 0 L).length))), (4, .int (nI ((tw_Us (tw_f xs) 0 (i + 1)).length))), (5, .int (nI (i + 1)))] := lv_sub hl [3, 4, 5, 6, 1, 0] rfl
      exact ih (i + 1) H locs ls (by omega) hw hl
    rw [if_neg (by omega)] at hel
    obtain ⟨k1, k2⟩ := hget 0 (by omega)
    rw [Nat.add_zero, (tw_enc_1 c8).1] at k2
    rw [Nat.add_zero] at k1
    obtain ⟨k3, k4⟩ := hget 1 (by omega)
    rw [(tw_enc_1 c8).2] at k4
    refine lv_aload_n hx hb dX0_letters_138 rfl (lv_at hl 2 rfl) ?_
    refine lv_iload hx hb dX0_letters_139 (lv_at hl 5 rfl) ?_
    refine c_letter (X := []) hC hcap (by omega) hrd hK hw hl.1 (Nat.le_of_ble_eq_true rfl) dX0_letters_141 (fun H locs hw => ?_)
    have hw : tw_Wd dC dI A s (tw_WL dB dH h t q b g1 n r) H locs := hw
    refine n_top (y := (nI (55296 + (tw_f xs i - 65536) / 1024))) (by rw [tw_let_at ho k1 (by omega), k2]) ?_
    refine lv_ldc (v := 55296) hx hb hown (hts _ q48) dX0_letters_144 ?_
    refine n_top (y := (nI 55296)) (by decide +kernel) ?_
    refine lv_iload hx hb dX0_letters_146 (lv_at hl 0 rfl) ?_
    refine lv_ldc (v := 65536) hx hb hown (hts _ q47) dX0_letters_148 ?_
    refine n_top (y := (nI 65536)) (by decide +kernel) ?_
    refine n_isub (r := (tw_f xs i) - 65536) hx hb dX0_letters_150 (by omega) rfl ?_
    refine lv_bipush (v := nI 10) hx hb dX0_letters_151 (by decide +kernel) ?_
    refine n_ishr (r := (tw_f xs i - 65536) / 1024) hx hb dX0_letters_153 (by omega) (by decide) rfl ?_
    refine n_iadd (r := 55296 + (tw_f xs i - 65536) / 1024) hx hb dX0_letters_154 rfl ?_
    refine n_neF (tgt := 181) hx hb dX0_letters_155 (by decide) rfl ?_
    refine lv_aload_n hx hb dX0_letters_158 rfl (lv_at hl 2 rfl) ?_
    refine lv_iload hx hb dX0_letters_159 (lv_at hl 5 rfl) ?_
    refine lv_iconst (v := nI 1) hx hb dX0_letters_161 (by decide +kernel) ?_
    refine n_iadd (r := ((tw_Us (tw_f xs) 0 i).length) + 1) hx hb dX0_letters_162 rfl ?_
    refine c_letter (X := []) hC hcap (by omega) hrd hK hw hl.1 (Nat.le_of_ble_eq_true rfl) dX0_letters_163 (fun H locs hw => ?_)
    have hw : tw_Wd dC dI A s (tw_WL dB dH h t q b g1 n r) H locs := hw
    refine n_top (y := (nI (56320 + (tw_f xs i - 65536) % 1024))) (by rw [tw_let_at ho k3 (by omega), k4]) ?_
    refine lv_ldc (v := 56320) hx hb hown (hts _ q49) dX0_letters_166 ?_
    refine n_top (y := (nI 56320)) (by decide +kernel) ?_
    refine lv_iload hx hb dX0_letters_168 (lv_at hl 0 rfl) ?_
    refine lv_ldc (v := 65536) hx hb hown (hts _ q47) dX0_letters_170 ?_
    refine n_top (y := (nI 65536)) (by decide +kernel) ?_
    refine n_isub (r := (tw_f xs i) - 65536) hx hb dX0_letters_172 (by omega) rfl ?_
    refine lv_sipush (v := nI 1023) hx hb dX0_letters_173 (by decide +kernel) ?_
    refine n_iandN (r := (tw_f xs i - 65536) % 1024) hx hb dX0_letters_176 10 (by omega) (by decide +kernel) rfl ?_
    refine n_iadd (r := 56320 + (tw_f xs i - 65536) % 1024) hx hb dX0_letters_177 rfl ?_
    refine n_eqT (tgt := 183) hx hb dX0_letters_178 (by decide) rfl ?_
    refine lv_iinc (lv' := [(4, .int (nI ((tw_Us (tw_f xs) 0 (i + 1)).length))), (6, .int (nI (tw_f xs i))), (0, .ref b0), (1, .ref h), (2, .int (nI L)), (3, .int (nI ((tw_Us (tw_f xs) 0 L).length))), (5, .int (nI i))]) (k := 5) hx hb dX0_letters_183 hl rfl (n_inc2 (by rw [hUs, hel])) (by decide) rfl (fun ls hl => ?_)
    refine lv_iinc (lv' := [(5, .int (nI (i + 1))), (4, .int (nI ((tw_Us (tw_f xs) 0 (i + 1)).length))), (6, .int (nI (tw_f xs i))), (0, .ref b0), (1, .ref h), (2, .int (nI L)), (3, .int (nI ((tw_Us (tw_f xs) 0 L).length)))]) (k := 6) hx hb dX0_letters_186 hl rfl (n_inc1 rfl) (by decide) rfl (fun ls hl => ?_)
    refine lv_goto (tgt := 97) hx hb dX0_letters_189 (by decide) ?_
    have hl : lv_has ls 9 [(0, .ref b0), (1, .ref h), (2, .int (nI L)), (3, .int (nI ((tw_Us (tw_f xs) 0 L).length))), (4, .int (nI ((tw_Us (tw_f xs) 0 (i + 1)).length))), (5, .int (nI (i + 1)))] := lv_sub hl [3, 4, 5, 6, 1, 0] rfl
    exact ih (i + 1) H locs ls (by omega) hw hl
set_option maxHeartbeats 4000000 in
/-- the third loop: the rest's units -/
theorem le_loop3 {p : Program} {l : Launch} {e : Env} {R : Room} {s : State} {m : MethodId} {args : Array Value} {below : List Frame} {meth : Method} {c : Code} {cells slots : Nat} {Q : State → Prop} {dC : Nat → ClassId} {dI : Nat → Nat → Nat} {A : Nat → Prop} {b0 N : Nat} {xs : Nat → Int32} {dB dH : ClassId} {h t q : Nat}
  (hC : tw_C p c s m args R A cX0_letters 9) (hcap : cells ≤ R.cells ∧ slots ≤ R.slots) (hX : va_X b0 (N + 1) xs s s.heap) (hbl : b0 < s.heap.size) (hbA : ¬ A b0) (hL : N + 1 ≤ 40) (hK : va_K (dC, dI) vwCl [(dB, .byte), (dH, .char)] s) {b : Nat → Nat} {g1 : Nat → Int32} {n : Nat} {r : Int32} (ho : tw_out (some (tw_Us (tw_f xs) 1 N)) r g1)
  (kS : ∀ (H : Heap) (locs : List Loc) (ls : Array Slot), tw_Wd dC dI A s (tw_WL dB dH h t q b g1 n r) H locs → ls.size = 9 → W p l e R s m args below meth c H locs cells slots Q (F0 m 389 ls [])) :
    ∀ (k i : Nat) (H : Heap) (locs : List Loc) (ls : Array Slot), i + k = N → tw_Wd dC dI A s (tw_WL dB dH h t q b g1 n r) H locs → lv_has ls 9 [(0, .ref b0), (1, .ref h), (2, .int (nI (N + 1))), (4, .int (nI ((tw_Us (tw_f xs) 1 i).length))), (8, .int (nI (1 + i)))] → W p l e R s m args below meth c H locs cells slots Q (F0 m 287 ls []) := by
  have hUL := tw_Us_len (tw_f xs) 1 N
  have hx := hC.1.1
  have hb := hC.1.2.1
  have hown := hC.1.2.2.2.1
  have hts := hC.1.2.2.2.2
  have hrd := tw_out_rd ho (by omega)
  intro k
  induction k with
  | zero =>
    intro i H locs ls hik hw hl
    refine lv_iload hx hb dX0_letters_287 (lv_at hl 4 rfl) ?_
    refine lv_iload_n hx hb dX0_letters_289 rfl (lv_at hl 2 rfl) ?_
    refine n_icmp_ge (tgt := 389) hx hb dX0_letters_290 (by decide) (by omega) (by omega) (fun _ => ?_) (fun c9 => absurd c9 (by omega))
    exact kS H locs ls hw hl.1
  | succ k ih =>
    intro i H locs ls hik hw hl
    have hUl := tw_Us_len (tw_f xs) 1 i
    have hpl := tw_f_lt xs (1 + i)
    have hget : ∀ j, j < (tw_enc (tw_f xs (1 + i))).length → (tw_Us (tw_f xs) 1 i).length + j < (tw_Us (tw_f xs) 1 N).length ∧ (tw_Us (tw_f xs) 1 N).getD ((tw_Us (tw_f xs) 1 i).length + j) 0 = (tw_enc (tw_f xs (1 + i))).getD j 0 := fun j hj => tw_Us_get (by omega) hj
    have hel := tw_enc_len (tw_f xs (1 + i))
    have hUs : (tw_Us (tw_f xs) 1 (i + 1)).length = (tw_Us (tw_f xs) 1 i).length + (tw_enc (tw_f xs (1 + i))).length := List.length_append
    obtain ⟨k1, k2⟩ := hget 0 (by rw [hel]; split <;> omega)
    rw [Nat.add_zero] at k1 k2
    refine lv_iload hx hb dX0_letters_287 (lv_at hl 4 rfl) ?_
    refine lv_iload_n hx hb dX0_letters_289 rfl (lv_at hl 2 rfl) ?_
    refine n_icmp_ge (tgt := 389) hx hb dX0_letters_290 (by decide) (by omega) (by omega) (fun c9 => absurd c9 (by omega)) (fun _ => ?_)
    refine lv_aload_n hx hb dX0_letters_293 rfl (lv_at hl 0 rfl) ?_
    refine lv_iload hx hb dX0_letters_294 (lv_at hl 4 rfl) ?_
    refine va_sld hx hb hX hbl hbA hw.2.2 (vp_in_nI (by omega) (by omega)) dX0_letters_296 ?_
    refine n_top (y := xs (1 + i)) (by rw [nI_clamp (by omega)]) ?_
    refine c_point (X := tw_WL dB dH h t q b g1 n r) hC hcap hw hl.1 (Nat.le_of_ble_eq_true rfl) dX0_letters_297 (fun H locs hw => ?_)
    have hw : tw_Wd dC dI A s (tw_WL dB dH h t q b g1 n r) H locs := hw
    refine n_top (y := nI (tw_f xs (1 + i))) rfl ?_
    refine lv_istore (lv' := [(5, .int (nI (tw_f xs (1 + i)))), (0, .ref b0), (1, .ref h), (2, .int (nI (N + 1))), (4, .int (nI ((tw_Us (tw_f xs) 1 i).length))), (8, .int (nI (1 + i)))]) hx hb dX0_letters_300 hl (by decide) rfl (fun ls hl => ?_)
    refine lv_aload_n hx hb dX0_letters_302 rfl (lv_at hl 2 rfl) ?_
    refine lv_iload hx hb dX0_letters_303 (lv_at hl 4 rfl) ?_
    refine c_letter (X := []) hC hcap (by omega) hrd hK hw hl.1 (Nat.le_of_ble_eq_true rfl) dX0_letters_305 (fun H locs hw => ?_)
    have hw : tw_Wd dC dI A s (tw_WL dB dH h t q b g1 n r) H locs := hw
    refine n_top (y := (nI ((tw_enc (tw_f xs (1 + i))).getD 0 0))) (by rw [tw_let_at ho k1 (by omega), k2]) ?_
    have kK : ∀ (H : Heap) (locs : List Loc), tw_Wd dC dI A s (tw_WL dB dH h t q b g1 n r) H locs → W p l e R s m args below meth c H locs cells slots Q (F0 m 366 ls []) := by
      intro H locs hw
      refine lv_iload hx hb dX0_letters_366 (lv_at hl 4 rfl) ?_
      have kJ : W p l e R s m args below meth c H locs cells slots Q (F0 m 380 ls [.int (nI ((tw_enc (tw_f xs (1 + i))).length)), .int (nI ((tw_Us (tw_f xs) 1 i).length))]) := by
        refine n_iadd (r := (tw_Us (tw_f xs) 1 (i + 1)).length) hx hb dX0_letters_380 (by rw [hUs]) ?_
        refine lv_istore (lv' := [(4, .int (nI ((tw_Us (tw_f xs) 1 (i + 1)).length))), (5, .int (nI (tw_f xs (1 + i)))), (0, .ref b0), (1, .ref h), (2, .int (nI (N + 1))), (8, .int (nI (1 + i)))]) hx hb dX0_letters_381 hl (by decide) rfl (fun ls hl => ?_)
        refine lv_iinc (lv' := [(8, .int (nI (1 + (i + 1)))), (4, .int (nI ((tw_Us (tw_f xs) 1 (i + 1)).length))), (5, .int (nI (tw_f xs (1 + i)))), (0, .ref b0), (1, .ref h), (2, .int (nI (N + 1)))]) (k := 5) hx hb dX0_letters_383 hl rfl (n_inc1 (by omega)) (by decide) rfl (fun ls hl => ?_)
        refine lv_goto (tgt := 287) hx hb dX0_letters_386 (by decide) ?_
        have hl : lv_has ls 9 [(0, .ref b0), (1, .ref h), (2, .int (nI (N + 1))), (4, .int (nI ((tw_Us (tw_f xs) 1 (i + 1)).length))), (8, .int (nI (1 + (i + 1))))] := lv_sub hl [3, 4, 5, 1, 0] rfl
        exact ih (i + 1) H locs ls (by omega) hw hl
      refine lv_iload hx hb dX0_letters_368 (lv_at hl 0 rfl) ?_
      refine lv_ldc (v := 65535) hx hb hown (hts _ q82) dX0_letters_370 ?_
      refine n_top (y := (nI 65535)) (by decide +kernel) ?_
      refine n_icmp_le (tgt := 379) hx hb dX0_letters_372 (by decide) (by omega) (by omega) (fun c8 => ?_) (fun c8 => ?_)
      · skip
        refine lv_iconst (v := nI 1) hx hb dX0_letters_379 (by decide +kernel) ?_
        exact n_top (y := (nI ((tw_enc (tw_f xs (1 + i))).length))) (congrArg nI (by rw [hel, if_pos (by omega)])) kJ
      · skip
        refine lv_iconst (v := nI 2) hx hb dX0_letters_375 (by decide +kernel) ?_
        refine lv_goto (tgt := 380) hx hb dX0_letters_376 (by decide) ?_
        exact n_top (y := (nI ((tw_enc (tw_f xs (1 + i))).length))) (congrArg nI (by rw [hel, if_neg (by omega)])) kJ
    have kJ : W p l e R s m args below meth c H locs cells slots Q (F0 m 331 ls [.int (nI ((tw_enc (tw_f xs (1 + i))).getD 0 0)), .int (nI ((tw_enc (tw_f xs (1 + i))).getD 0 0))]) := by
      refine n_neF (tgt := 364) hx hb dX0_letters_331 (by decide) rfl ?_
      refine lv_iload hx hb dX0_letters_334 (lv_at hl 0 rfl) ?_
      refine lv_ldc (v := 65535) hx hb hown (hts _ q82) dX0_letters_336 ?_
      refine n_top (y := (nI 65535)) (by decide +kernel) ?_
      refine n_icmp_le (tgt := 366) hx hb dX0_letters_338 (by decide) (by omega) (by omega) (fun _ => kK H locs hw) (fun c8 => ?_)
      rw [if_neg (by omega)] at hel
      obtain ⟨k3, k4⟩ := hget 1 (by omega)
      rw [(tw_enc_1 (by omega)).2] at k4
      refine lv_aload_n hx hb dX0_letters_341 rfl (lv_at hl 2 rfl) ?_
      refine lv_iload hx hb dX0_letters_342 (lv_at hl 4 rfl) ?_
      refine lv_iconst (v := nI 1) hx hb dX0_letters_344 (by decide +kernel) ?_
      refine n_iadd (r := ((tw_Us (tw_f xs) 1 i).length) + 1) hx hb dX0_letters_345 rfl ?_
      refine c_letter (X := []) hC hcap (by omega) hrd hK hw hl.1 (Nat.le_of_ble_eq_true rfl) dX0_letters_346 (fun H locs hw => ?_)
      have hw : tw_Wd dC dI A s (tw_WL dB dH h t q b g1 n r) H locs := hw
      refine n_top (y := (nI (56320 + (tw_f xs (1 + i) - 65536) % 1024))) (by rw [tw_let_at ho k3 (by omega), k4]) ?_
      refine lv_ldc (v := 56320) hx hb hown (hts _ q49) dX0_letters_349 ?_
      refine n_top (y := (nI 56320)) (by decide +kernel) ?_
      refine lv_iload hx hb dX0_letters_351 (lv_at hl 0 rfl) ?_
      refine lv_ldc (v := 65536) hx hb hown (hts _ q47) dX0_letters_353 ?_
      refine n_top (y := (nI 65536)) (by decide +kernel) ?_
      refine n_isub (r := (tw_f xs (1 + i)) - 65536) hx hb dX0_letters_355 (by omega) rfl ?_
      refine lv_sipush (v := nI 1023) hx hb dX0_letters_356 (by decide +kernel) ?_
      refine n_iandN (r := (tw_f xs (1 + i) - 65536) % 1024) hx hb dX0_letters_359 10 (by omega) (by decide +kernel) rfl ?_
      refine n_iadd (r := 56320 + (tw_f xs (1 + i) - 65536) % 1024) hx hb dX0_letters_360 rfl ?_
      refine n_eqT (tgt := 366) hx hb dX0_letters_361 (by decide) rfl ?_
      exact kK H locs hw
    refine lv_iload hx hb dX0_letters_308 (lv_at hl 0 rfl) ?_
    refine lv_ldc (v := 65536) hx hb hown (hts _ q47) dX0_letters_310 ?_
    refine n_top (y := (nI 65536)) (by decide +kernel) ?_
    refine n_icmp_ge (tgt := 320) hx hb dX0_letters_312 (by decide) (by omega) (by omega) (fun c8 => ?_) (fun c8 => ?_)
    · skip
      refine lv_ldc (v := 55296) hx hb hown (hts _ q48) dX0_letters_320 ?_
      refine n_top (y := (nI 55296)) (by decide +kernel) ?_
      refine lv_iload hx hb dX0_letters_322 (lv_at hl 0 rfl) ?_
      refine lv_ldc (v := 65536) hx hb hown (hts _ q47) dX0_letters_324 ?_
      refine n_top (y := (nI 65536)) (by decide +kernel) ?_
      refine n_isub (r := (tw_f xs (1 + i)) - 65536) hx hb dX0_letters_326 (by omega) rfl ?_
      refine lv_bipush (v := nI 10) hx hb dX0_letters_327 (by decide +kernel) ?_
      refine n_ishr (r := (tw_f xs (1 + i) - 65536) / 1024) hx hb dX0_letters_329 (by omega) (by decide) rfl ?_
      refine n_iadd (r := 55296 + (tw_f xs (1 + i) - 65536) / 1024) hx hb dX0_letters_330 rfl ?_
      exact n_top (y := (nI ((tw_enc (tw_f xs (1 + i))).getD 0 0))) (congrArg nI (tw_enc_1 c8).1.symm) kJ
    · skip
      refine lv_iload hx hb dX0_letters_315 (lv_at hl 0 rfl) ?_
      refine lv_goto (tgt := 331) hx hb dX0_letters_317 (by decide) ?_
      exact n_top (y := (nI ((tw_enc (tw_f xs (1 + i))).getD 0 0))) (congrArg nI (tw_enc_0 c8).symm) kJ
/-- what a method of the law finds: the script, the class known, the tables -/
abbrev tw_PreL (dC : Nat → ClassId) (dI : Nat → Nat → Nat) (b0 L : Nat) (xs : Nat → Int32) (sz : Nat) : State → Prop := fun U => U.heap.size = sz ∧ va_X b0 L xs U U.heap ∧ b0 < sz ∧ va_K (dC, dI) vwCl [] U ∧ tw_TB (fun q => sz ≤ q) U U.heap
abbrev tw_QL (A : Nat → Prop) : Array Value → State → Outcome → State → Prop := va_Qi (fun (r : Int32) (_ : Unit) => r = nI 1) (fun _ _ => True) A
set_option maxHeartbeats 4000000 in
/-- letters' body -/
theorem le_body {p : Program} {l : Launch} {e : Env} {R : Room} {s : State} {m : MethodId} {args : Array Value} {below : List Frame} {meth : Method} {c : Code} {Q : State → Prop} {dC : Nat → ClassId} {dI : Nat → Nat → Nat} {A : Nat → Prop} {b0 L : Nat} {xs : Nat → Int32}
  (hC : tw_C p c s m args R A cX0_letters 9) (hcap0 : 0 + 3 ≤ R.cells ∧ 0 + 2052 ≤ R.slots) (hX : va_X b0 L xs s s.heap) (hbl : b0 < s.heap.size) (hbA : ¬ A b0) (hL : L ≤ 40) (hK0 : va_K (dC, dI) vwCl [] s)
  (kR : ∀ (X : va_W) (pc : Nat) (ls : Array Slot) (H : Heap) (locs : List Loc), decode cX0_letters pc = .ok (.ireturn, 1) → tw_Wd dC dI A s X H locs → W p l e R s m args below meth c H locs 3 2052 Q (F0 m pc ls [.int (nI 1)])) (ls : Array Slot) (hl : lv_has ls 9 [(0, .ref b0)]) : W p l e R s m args below meth c s.heap [] 0 0 Q (F0 m 0 ls []) := by
  have hcap : 3 ≤ R.cells ∧ 2052 ≤ R.slots := by omega
  have hw : tw_Wd dC dI A s [] s.heap [] := tw_empty
  have hx := hC.1.1
  have hb := hC.1.2.1
  have hown := hC.1.2.2.2.1
  have hts := hC.1.2.2.2.2
  refine c_mk (X := []) hC hcap0 hK0 hw hl.1 (Nat.le_of_ble_eq_true rfl) dX0_letters_0 dX0_letters_3 dX0_letters_4 (fun h t q dB dH H locs hK hw => ?_)
  have hw : tw_Wd dC dI A s (tw_WL dB dH h t q (fun _ => 0) (fun _ => nI 0) 0 (nI 0)) H locs := hw
  refine W.widen (k := 3) (n := 2052) (Nat.le_of_ble_eq_true rfl) (Nat.le_of_ble_eq_true rfl) ?_
  refine lv_astore_n (lv' := [(1, .ref h), (0, .ref b0)]) hx hb dX0_letters_7 rfl hl (by decide) rfl (fun ls hl => ?_)
  refine lv_aload_n hx hb dX0_letters_8 rfl (lv_at hl 1 rfl) ?_
  refine va_slen hx hb hX hbl hbA hw.2.2 dX0_letters_9 ?_
  refine n_top (y := nI L) rfl ?_
  refine lv_bipush (v := nI 40) hx hb dX0_letters_10 (by decide +kernel) ?_
  have kJ : ∀ H locs, tw_Wd dC dI A s (tw_WL dB dH h t q (fun _ => 0) (fun _ => nI 0) 0 (nI 0)) H locs → W p l e R s m args below meth c H locs 3 2052 Q (F0 m 22 ls [.int (nI L)]) := by
    intro H locs hw
    refine lv_istore_n (lv' := [(2, .int (nI L)), (1, .ref h), (0, .ref b0)]) hx hb dX0_letters_22 rfl hl (by decide) rfl (fun ls hl => ?_)
    refine lv_iconst (v := nI 0) hx hb dX0_letters_23 (by decide +kernel) ?_
    refine lv_istore_n (lv' := [(3, .int (nI 0)), (2, .int (nI L)), (1, .ref h), (0, .ref b0)]) hx hb dX0_letters_24 rfl hl (by decide) rfl (fun ls hl => ?_)
    refine lv_iconst (v := nI 0) hx hb dX0_letters_25 (by decide +kernel) ?_
    refine lv_istore (lv' := [(4, .int (nI 0)), (3, .int (nI 0)), (2, .int (nI L)), (1, .ref h), (0, .ref b0)]) hx hb dX0_letters_26 hl (by decide) rfl (fun ls hl => ?_)
    have hl : lv_has ls 9 [(0, .ref b0), (1, .ref h), (2, .int (nI L)), (3, .int (nI 0)), (4, .int (nI 0))] := lv_sub hl [4, 3, 2, 1, 0] rfl
    refine le_loop1 hC hcap hX hbl hbA hL hK (fun b H locs ls hb6 hat hw hl => ?_) L 0 (fun _ => 0) H locs ls (by omega) (fun _ => (by decide : 0 < 256)) (tw_at_nil _ _) hw hl
    have hTL := tw_Ts_len (tw_f xs) 0 L
    have hUL := tw_Us_len (tw_f xs) 0 L
    refine lv_aload_n hx hb dX0_letters_76 rfl (lv_at hl 1 rfl) ?_
    refine lv_iconst (v := nI 0) hx hb dX0_letters_77 (by decide +kernel) ?_
    refine lv_aload_n hx hb dX0_letters_78 rfl (lv_at hl 1 rfl) ?_
    refine c_size (X := []) hC hcap hK hw hl.1 (Nat.le_of_ble_eq_true rfl) dX0_letters_79 (fun H locs hw => ?_)
    have hw : tw_Wd dC dI A s (tw_WL dB dH h t q b (fun _ => nI 0) ((tw_Ts (tw_f xs) 0 L).length) (nI 0)) H locs := hw
    refine c_read (X := []) hC hcap hb6 (by omega) (by omega) hK hw hl.1 (Nat.le_of_ble_eq_true rfl) dX0_letters_82 (fun r g1 H locs ho hw => ?_)
    have hw : tw_Wd dC dI A s (tw_WL dB dH h t q b g1 ((tw_Ts (tw_f xs) 0 L).length) r) H locs := hw
    rw [tw_dec_Ts (f := tw_f xs) (a := 0) (k := L) (tw_f_sc xs) hat rfl] at ho
    refine lv_iload_n hx hb dX0_letters_85 rfl (lv_at hl 3 rfl) ?_
    refine n_eqT (tgt := 91) hx hb dX0_letters_86 (by decide) ho.1 ?_
    refine lv_iconst (v := nI 0) hx hb dX0_letters_91 (by decide +kernel) ?_
    refine lv_istore (lv' := [(4, .int (nI 0)), (0, .ref b0), (1, .ref h), (2, .int (nI L)), (3, .int (nI ((tw_Us (tw_f xs) 0 L).length)))]) hx hb dX0_letters_92 hl (by decide) rfl (fun ls hl => ?_)
    refine lv_iconst (v := nI 0) hx hb dX0_letters_94 (by decide +kernel) ?_
    refine lv_istore (lv' := [(5, .int (nI 0)), (4, .int (nI 0)), (0, .ref b0), (1, .ref h), (2, .int (nI L)), (3, .int (nI ((tw_Us (tw_f xs) 0 L).length)))]) hx hb dX0_letters_95 hl (by decide) rfl (fun ls hl => ?_)
    have hl : lv_has ls 9 [(0, .ref b0), (1, .ref h), (2, .int (nI L)), (3, .int (nI ((tw_Us (tw_f xs) 0 L).length))), (4, .int (nI 0)), (5, .int (nI 0))] := lv_sub hl [2, 3, 4, 5, 1, 0] rfl
    refine le_loop2 hC hcap hX hbl hbA hL hK ho (fun H locs ls hw hl => ?_) L 0 H locs ls (by omega) hw hl
    refine lv_iload_n hx hb dX0_letters_192 rfl (lv_at hl 2 rfl) ?_
    refine lv_iconst (v := nI 2) hx hb dX0_letters_193 (by decide +kernel) ?_
    refine n_icmp_ge (tgt := 199) hx hb dX0_letters_194 (by decide) (by omega) (by omega) (fun c9 => ?_) (fun c9 => ?_)
    rotate_left
    · skip
      refine lv_iconst (v := nI 1) hx hb dX0_letters_197 (by decide +kernel) ?_
      exact kR _ 198 _ H locs dX0_letters_198 hw
    obtain ⟨N, rfl⟩ : ∃ N, L = N + 1 := ⟨L - 1, by omega⟩
    have hTh := tw_Ts_head (tw_f xs) 0 N
    have hUh := tw_Us_head (tw_f xs) 0 N
    have hpl := tw_f_lt xs 0
    have hTn : (tw_Ts (tw_f xs) 0 (N + 1)).length = (tw_utf (tw_f xs 0)).length + (tw_Ts (tw_f xs) 1 N).length := by rw [hTh, List.length_append]
    have hUn : (tw_Us (tw_f xs) 0 (N + 1)).length = (tw_enc (tw_f xs 0)).length + (tw_Us (tw_f xs) 1 N).length := by rw [hUh, List.length_append]
    have hul := tw_utf_len (tw_f xs 0)
    have hel := tw_enc_len (tw_f xs 0)
    refine lv_aload_n hx hb dX0_letters_199 rfl (lv_at hl 0 rfl) ?_
    refine lv_iconst (v := nI 0) hx hb dX0_letters_200 (by decide +kernel) ?_
    refine va_sld hx hb hX hbl hbA hw.2.2 (vp_in_nI (by omega) (by omega)) dX0_letters_201 ?_
    refine n_top (y := xs 0) (by rw [nI_clamp (by omega)]) ?_
    refine c_point (X := tw_WL dB dH h t q b g1 ((tw_Ts (tw_f xs) 0 (N + 1)).length) r) hC hcap hw hl.1 (Nat.le_of_ble_eq_true rfl) dX0_letters_202 (fun H locs hw => ?_)
    have hw : tw_Wd dC dI A s (tw_WL dB dH h t q b g1 ((tw_Ts (tw_f xs) 0 (N + 1)).length) r) H locs := hw
    refine n_top (y := nI (tw_f xs 0)) rfl ?_
    refine lv_istore (lv' := [(5, .int (nI (tw_f xs 0))), (0, .ref b0), (1, .ref h), (2, .int (nI (N + 1))), (3, .int (nI ((tw_Us (tw_f xs) 0 (N + 1)).length)))]) hx hb dX0_letters_205 hl (by decide) rfl (fun ls hl => ?_)
    have kK : W p l e R s m args below meth c H locs 3 2052 Q (F0 m 243 ls [.int (nI (tw_utf (tw_f xs 0)).length)]) := by
      refine lv_istore (lv' := [(6, .int (nI ((tw_utf (tw_f xs 0)).length))), (5, .int (nI (tw_f xs 0))), (0, .ref b0), (1, .ref h), (2, .int (nI (N + 1))), (3, .int (nI ((tw_Us (tw_f xs) 0 (N + 1)).length)))]) hx hb dX0_letters_243 hl (by decide) rfl (fun ls hl => ?_)
      have kL : W p l e R s m args below meth c H locs 3 2052 Q (F0 m 257 ls [.int (nI (tw_enc (tw_f xs 0)).length)]) := by
        refine lv_istore (lv' := [(7, .int (nI ((tw_enc (tw_f xs 0)).length))), (6, .int (nI ((tw_utf (tw_f xs 0)).length))), (5, .int (nI (tw_f xs 0))), (0, .ref b0), (1, .ref h), (2, .int (nI (N + 1))), (3, .int (nI ((tw_Us (tw_f xs) 0 (N + 1)).length)))]) hx hb dX0_letters_257 hl (by decide) rfl (fun ls hl => ?_)
        refine lv_aload_n hx hb dX0_letters_259 rfl (lv_at hl 4 rfl) ?_
        refine lv_iload hx hb dX0_letters_260 (lv_at hl 1 rfl) ?_
        refine lv_aload_n hx hb dX0_letters_262 rfl (lv_at hl 4 rfl) ?_
        refine c_size (X := []) hC hcap hK hw hl.1 (Nat.le_of_ble_eq_true rfl) dX0_letters_263 (fun H locs hw => ?_)
        have hw : tw_Wd dC dI A s (tw_WL dB dH h t q b g1 ((tw_Ts (tw_f xs) 0 (N + 1)).length) r) H locs := hw
        refine lv_iload hx hb dX0_letters_266 (lv_at hl 1 rfl) ?_
        refine n_isub (r := (tw_Ts (tw_f xs) 1 N).length) hx hb dX0_letters_268 (by omega) (by omega) ?_
        refine c_read (X := []) hC hcap hb6 (by omega) (by omega) hK hw hl.1 (Nat.le_of_ble_eq_true rfl) dX0_letters_269 (fun r2 g2 H locs ho2 hw => ?_)
        have hw : tw_Wd dC dI A s (tw_WL dB dH h t q b g2 ((tw_Ts (tw_f xs) 0 (N + 1)).length) r2) H locs := hw
        have hat2 := (tw_at_app.1 (by rw [hTh] at hat; exact hat)).2
        rw [tw_dec_Ts (f := tw_f xs) (a := 1) (k := N) (tw_f_sc xs) (by rw [Nat.zero_add] at hat2; exact hat2) rfl] at ho2
        refine lv_iload_n hx hb dX0_letters_272 rfl (lv_at hl 6 rfl) ?_
        refine lv_iload hx hb dX0_letters_273 (lv_at hl 0 rfl) ?_
        refine n_isub (r := (tw_Us (tw_f xs) 1 N).length) hx hb dX0_letters_275 (by omega) (by omega) ?_
        refine n_eqT (tgt := 281) hx hb dX0_letters_276 (by decide) ho2.1 ?_
        refine lv_iconst (v := nI 0) hx hb dX0_letters_281 (by decide +kernel) ?_
        refine lv_istore (lv' := [(4, .int (nI 0)), (7, .int (nI ((tw_enc (tw_f xs 0)).length))), (6, .int (nI ((tw_utf (tw_f xs 0)).length))), (5, .int (nI (tw_f xs 0))), (0, .ref b0), (1, .ref h), (2, .int (nI (N + 1))), (3, .int (nI ((tw_Us (tw_f xs) 0 (N + 1)).length)))]) hx hb dX0_letters_282 hl (by decide) rfl (fun ls hl => ?_)
        refine lv_iconst (v := nI 1) hx hb dX0_letters_284 (by decide +kernel) ?_
        refine lv_istore (lv' := [(8, .int (nI 1)), (4, .int (nI 0)), (7, .int (nI ((tw_enc (tw_f xs 0)).length))), (6, .int (nI ((tw_utf (tw_f xs 0)).length))), (5, .int (nI (tw_f xs 0))), (0, .ref b0), (1, .ref h), (2, .int (nI (N + 1))), (3, .int (nI ((tw_Us (tw_f xs) 0 (N + 1)).length)))]) hx hb dX0_letters_285 hl (by decide) rfl (fun ls hl => ?_)
        have hl : lv_has ls 9 [(0, .ref b0), (1, .ref h), (2, .int (nI (N + 1))), (4, .int (nI 0)), (8, .int (nI 1))] := lv_sub hl [5, 6, 7, 1, 0] rfl
        refine le_loop3 hC hcap hX hbl hbA hL hK ho2 (fun H locs ls hw hls => ?_) N 0 H locs ls (by omega) hw hl
        refine lv_iconst (v := nI 1) hx hb dX0_letters_389 (by decide +kernel) ?_
        exact kR _ 390 _ H locs dX0_letters_390 hw
      refine lv_iload hx hb dX0_letters_245 (lv_at hl 1 rfl) ?_
      refine lv_ldc (v := 65535) hx hb hown (hts _ q82) dX0_letters_247 ?_
      refine n_top (y := (nI 65535)) (by decide +kernel) ?_
      refine n_icmp_le (tgt := 256) hx hb dX0_letters_249 (by decide) (by omega) (by omega) (fun c8 => ?_) (fun c8 => ?_)
      · skip
        refine lv_iconst (v := nI 1) hx hb dX0_letters_256 (by decide +kernel) ?_
        exact n_top (y := (nI ((tw_enc (tw_f xs 0)).length))) (congrArg nI (by rw [hel, if_pos (by omega)])) kL
      · skip
        refine lv_iconst (v := nI 2) hx hb dX0_letters_252 (by decide +kernel) ?_
        refine lv_goto (tgt := 257) hx hb dX0_letters_253 (by decide) ?_
        exact n_top (y := (nI ((tw_enc (tw_f xs 0)).length))) (congrArg nI (by rw [hel, if_neg (by omega)])) kL
    refine lv_iload hx hb dX0_letters_207 (lv_at hl 0 rfl) ?_
    refine lv_sipush (v := nI 128) hx hb dX0_letters_209 (by decide +kernel) ?_
    refine n_icmp_ge (tgt := 219) hx hb dX0_letters_212 (by decide) (by omega) (by omega) (fun c8 => ?_) (fun c8 => ?_)
    rotate_left
    · skip
      refine lv_iconst (v := nI 1) hx hb dX0_letters_215 (by decide +kernel) ?_
      refine lv_goto (tgt := 243) hx hb dX0_letters_216 (by decide) ?_
      exact n_top (y := (nI ((tw_utf (tw_f xs 0)).length))) (congrArg nI (by rw [hul, if_pos c8])) kK
    refine lv_iload hx hb dX0_letters_219 (lv_at hl 0 rfl) ?_
    refine lv_sipush (v := nI 2048) hx hb dX0_letters_221 (by decide +kernel) ?_
    refine n_icmp_ge (tgt := 231) hx hb dX0_letters_224 (by decide) (by omega) (by omega) (fun c7 => ?_) (fun c7 => ?_)
    rotate_left
    · skip
      refine lv_iconst (v := nI 2) hx hb dX0_letters_227 (by decide +kernel) ?_
      refine lv_goto (tgt := 243) hx hb dX0_letters_228 (by decide) ?_
      exact n_top (y := (nI ((tw_utf (tw_f xs 0)).length))) (congrArg nI (by rw [hul, if_neg (by omega), if_pos c7])) kK
    refine lv_iload hx hb dX0_letters_231 (lv_at hl 0 rfl) ?_
    refine lv_ldc (v := 65536) hx hb hown (hts _ q47) dX0_letters_233 ?_
    refine n_top (y := (nI 65536)) (by decide +kernel) ?_
    refine n_icmp_ge (tgt := 242) hx hb dX0_letters_235 (by decide) (by omega) (by omega) (fun c6 => ?_) (fun c6 => ?_)
    rotate_left
    · skip
      refine lv_iconst (v := nI 3) hx hb dX0_letters_238 (by decide +kernel) ?_
      refine lv_goto (tgt := 243) hx hb dX0_letters_239 (by decide) ?_
      exact n_top (y := (nI ((tw_utf (tw_f xs 0)).length))) (congrArg nI (by rw [hul, if_neg (by omega), if_neg (by omega), if_pos c6])) kK
    refine lv_iconst (v := nI 4) hx hb dX0_letters_242 (by decide +kernel) ?_
    exact n_top (y := (nI ((tw_utf (tw_f xs 0)).length))) (congrArg nI (by rw [hul, if_neg (by omega), if_neg (by omega), if_neg (by omega)])) kK
  refine n_icmp_ge (tgt := 20) hx hb dX0_letters_12 (by decide) (by omega) (by omega) (fun c9 => ?_) (fun c9 => ?_)
  · skip
    refine lv_bipush (v := nI 40) hx hb dX0_letters_20 (by decide +kernel) ?_
    exact n_top (y := (nI L)) (congrArg nI (by omega)) (kJ H locs hw)
  · skip
    refine lv_aload_n hx hb dX0_letters_15 rfl (lv_at hl 1 rfl) ?_
    refine va_slen hx hb hX hbl hbA hw.2.2 dX0_letters_16 ?_
    refine n_top (y := nI L) rfl ?_
    refine lv_goto (tgt := 22) hx hb dX0_letters_17 (by decide) ?_
    exact kJ H locs hw
set_option maxHeartbeats 4000000 in
set_option maxRecDepth 100000 in
/-- letters(s) answers true -/
theorem met_letters (l : Launch) (dC : Nat → ClassId) (dI : Nat → Nat → Nat) (b0 L sz : Nat) (xs : Nat → Int32) (hL : L ≤ 40) : Met l yX0_letters (ws_ yX0_letters cX0_letters 9 (some .boolean)) ({ frames := 3, cells := 3, slots := 2052, locals := 100 }) (va_Pc [.ref b0] (tw_PreL dC dI b0 L xs sz)) (tw_QL (fun q => sz ≤ q)) 3 2052 (fun q => sz ≤ q) := by
  refine Met.ofW (cc := cX0_letters) (maxL := 9) (ret := some .boolean) (by decide) rfl ?_
  intro p e s m args below meth c s₁ B hml hv
  obtain ⟨rfl, hsz, hX, hbl, hK0, hT⟩ := hv
  have hr := B.returns
  have hlocks := B.notSynchronized
  have hx := B.exec
  have hb := B.bytes
  have hts := atoms_spec (ws := ws_ yX0_letters cX0_letters 9 (some .boolean)) B.pre
  have hts : ∀ w ∈ lw_all, w.before _ s = true := fun w h => hts w (List.mem_cons_of_mem _ h)
  have hown : s.vm.findClass RX0 = some m.cls := findClass_of_methodNamed B.named
  subst hsz
  have hbA : ¬ (fun q : Nat => s.heap.size ≤ q) b0 := fun h9 => absurd hbl (Nat.not_lt.mpr h9)
  have hA : ∀ q : Nat, s.heap.size ≤ q → (fun q : Nat => s.heap.size ≤ q) q := fun q h9 => h9
  generalize (fun q : Nat => s.heap.size ≤ q) = A at hT hbA hA ⊢
  have hl := lv_entry ([.ref b0]) (n := 9) (Nat.le_of_ble_eq_true rfl)
  rw [lg_entry_eq]
  generalize (lg_sl ([.ref b0]) ++ List.replicate (9 - (lg_sl ([.ref b0])).length) Slot.unset).toArray = ls at hl ⊢
  have hl : lv_has ls 9 [(0, .ref b0)] := hl
  refine le_body (tw_C_of hx hb hml hown hts (Nat.le_of_ble_eq_true rfl) (Nat.le_of_ble_eq_true rfl) hT hA) ⟨Nat.le_of_ble_eq_true rfl, Nat.le_of_ble_eq_true rfl⟩ hX hbl hbA hL hK0 (fun X pc ls H locs d hw => ?_) ls hl
  exact W.zret (v := nI 1) hx hb hr rfl (fun T ht _ => ⟨⟨nI 1, (), rfl, rfl, trivial⟩, hw.2.2.F ht⟩) hw.2.2.2.2 d
end
section
/-! the law: anyBytes -/
set_option maxRecDepth 100000
def tw_tl : List Nat := [0, 65, 127, 128, 143, 144, 159, 160, 191, 192, 193, 194, 223, 224, 225, 236, 237, 238, 239, 240, 241, 243, 244, 245, 247, 248, 255, 128, 160, 191, 144, 159]
def tw_tn (k : Nat) : Nat → Int32 := fun j => if j < k then nI (tw_tl.getD j 0) else nI 0
theorem tw_tn_s (k v : Nat) (h : tw_tl.getD k 0 = v) : upd (tw_tn k) k (nI v) = tw_tn (k + 1) := by
  funext j
  show (if j = k then nI v else if j < k then nI (tw_tl.getD j 0) else nI 0) = if j < k + 1 then nI (tw_tl.getD j 0) else nI 0
  by_cases c : j = k
  · subst c
    rw [if_pos rfl, if_pos (by omega), h]
  · rw [if_neg c]
    by_cases c2 : j < k
    · rw [if_pos c2, if_pos (by omega)]
    · rw [if_neg c2, if_neg (by omega)]
theorem tw_tl_256 : ∀ k, k < 32 → tw_tl.getD k 0 < 256 := by decide +kernel
abbrev tw_X3 (dT dN dO : ClassId) (ta wa oa : Nat) (wf og : Nat → Int32) : va_W := [(ta, .inl (dT, 32, .inl (tw_tn 32))), (wa, .inl (dN, 40, .inl wf)), (oa, .inl (dO, 80, .inl og))]
theorem tw_mix {v : Nat} (h : v < 256) (c : Int32) : (nI v ||| (c &&& -256)).toBitVec.toNat % 256 = v := by
  have hneg : ∀ j, j < 8 → (-256 : Int32).toBitVec.getLsbD j = false := by decide +kernel
  apply Nat.eq_of_testBit_eq
  intro i
  rw [show (256 : Nat) = 2 ^ 8 by decide, Nat.testBit_mod_two_pow]
  by_cases hi : i < 8
  · have e : (nI v ||| (c &&& -256)).toBitVec.toNat.testBit i = v.testBit i := by
      show (nI v ||| (c &&& -256)).toBitVec.getLsbD i = v.testBit i
      rw [Int32.toBitVec_or, Int32.toBitVec_and, BitVec.getLsbD_or, BitVec.getLsbD_and, hneg i hi, Bool.and_false, Bool.or_false]
      show (nI v).toBitVec.toNat.testBit i = v.testBit i
      rw [pk_tn (by omega)]
    rw [e]
    simp [hi]
  · have e : v.testBit i = false := Nat.testBit_lt_two_pow (Nat.lt_of_lt_of_le h (show 2 ^ 8 ≤ 2 ^ i from Nat.pow_le_pow_right (by decide) (by omega)))
    rw [e]
    simp [hi]
theorem tw_us_len {b : Nat → Nat} {e : Nat} : ∀ (n i : Nat) (u : List Nat), i ≤ e → tw_us b e n i = some u → i + u.length ≤ e := by
  intro n
  induction n with
  | zero => intro i u hi h; cases h; simpa using hi
  | succ n ih =>
    intro i u hi h
    by_cases c : e ≤ i
    · rw [tw_us_end c] at h; cases h; simpa using hi
    · cases hs : tw_step b i e with
      | none => rw [tw_us_none (by omega) hs] at h; cases h
      | some q =>
        rw [tw_us_some (by omega) hs] at h
        obtain ⟨h1, h2, h3, h4⟩ := tw_step_some hs
        cases hr : tw_us b e n (i + q.2) with
        | none => rw [hr] at h; cases h
        | some r =>
          rw [hr] at h
          have h5 := ih (i + q.2) r h2 hr
          simp only [Option.map_some, Option.some.injEq] at h
          subst h
          rw [List.length_append]
          omega
theorem tw_dec_len {b : Nat → Nat} {i e : Nat} {u : List Nat} (hi : i ≤ e) (h : tw_dec b i e = some u) : i + u.length ≤ e := tw_us_len _ _ _ hi h
theorem tw_let_gen {u : List Nat} {g : Nat → Int32} (ho : ∀ k, k < u.length → g k = nI (u.getD k 0)) (h0 : 0 < u.length) (hu : u.length ≤ 1024) (i : Nat) : tw_let g (nI u.length) i = nI (u.getD (i % u.length) 0) := by
  unfold tw_let
  rw [if_neg (nI_nle h0 (by omega)), nI_clamp (by omega), ho _ (Nat.mod_lt _ h0)]
section TN
variable {p : Program} {l : Launch} {e : Env} {R : Room} {s : State} {m : MethodId} {args : Array Value} {below : List Frame} {meth : Method} {c : Code} {H : Heap} {locs : List Loc} {cells slots : Nat} {Q : State → Prop} {cc : ByteArray} {pc nL : Nat} {ls : Array Slot} {rest : List Value} {dC : Nat → ClassId} {dI : Nat → Nat → Nat} {A : Nat → Prop} {X : va_W}
theorem c_newi {N : Nat} (f : Nat → Int32) (hf : ∀ j, f j = nI 0) (C : tw_C p c s m args R A cc nL) (hcap : cells + 1 ≤ R.cells ∧ slots + N ≤ R.slots) (hN : N ≤ 1000) (hK : va_K (dC, dI) vwCl [] s) (hw : tw_Wd dC dI A s X H locs) (d : decode cc pc = .ok (.newarray .int, 2)) (kk : ∀ (q : Nat) (dN : ClassId) (H1 : Heap), va_K (dC, dI) vwCl [(dN, .int)] s → tw_Wd dC dI A s (X ++ [(q, .inl (dN, N, .inl f))]) H1 locs → W p l e R s m args below meth c H1 locs (cells + 1) (slots + N) Q (F0 m (pc + 2) ls (.ref q :: rest))) : W p l e R s m args below meth c H locs cells slots Q (F0 m pc ls (.int (nI N) :: rest)) := by
  obtain ⟨hc, -, -, -, hA⟩ := C
  refine va_newa (atype := .int) (ty := .int) (N' := N) (a0 := (N, .inl f)) hc.1 hc.2.1 (hc.2.2.2.2 _ q27) rfl hK hw.1 hw.2.1 hw.2.2 hA (fun cA => ?_) (nI_pos (by omega)) (nI_clamp (by omega)) (by show N * 4 ≤ 536870912; omega) hcap.1 hcap.2 d (fun q dN H1 hK1 hP hD hS => kk q dN H1 hK1 ⟨hP, hD, hS⟩)
  show arrV cA N (fun j => .int (f j)) = arrV cA N (fun _ => defaultValue .int)
  congr 1
  funext j
  rw [hf j]
  rfl
theorem n_if_le {a : Nat} {off : Int} {tgt : Nat} (hx : p.tables.exec = Jvm.exec) (hb : c.code = cc) (d : decode cc pc = .ok (.ifCond .le off, 3)) (ht : (pc : Int) + off = (tgt : Int)) (h1 : a < 2 ^ 31) (kt : a = 0 → W p l e R s m args below meth c H locs cells slots Q (F0 m tgt ls rest)) (kf : 0 < a → W p l e R s m args below meth c H locs cells slots Q (F0 m (pc + 3) ls rest)) : W p l e R s m args below meth c H locs cells slots Q (F0 m pc ls (.int (nI a) :: rest)) :=
  lv_if_le hx hb d ht (fun q => kt (Classical.byContradiction (fun z => nI_nle (Nat.pos_of_ne_zero z) h1 q))) (fun q => kf (Nat.pos_of_ne_zero (fun z => q (by rw [z]; decide))))
end TN
set_option maxHeartbeats 4000000 in
/-- the innermost loop: every unit told as the law's own reader has it -/
theorem ab_E {p : Program} {l : Launch} {e : Env} {R : Room} {s : State} {m : MethodId} {args : Array Value} {below : List Frame} {meth : Method} {c : Code} {cells slots : Nat} {Q : State → Prop} {dC : Nat → ClassId} {dI : Nat → Nat → Nat} {A : Nat → Prop} {b0 : Nat} {dT dN dO dB dH : ClassId} {ta wa oa h t q : Nat} {b : Nat → Nat} {wf : Nat → Int32}
  (hC : tw_C p c s m args R A cX0_anyBytes 9) (hcap : cells ≤ R.cells ∧ slots ≤ R.slots) (hK : va_K (dC, dI) vwCl [(dB, .byte), (dH, .char)] s) (hKT : va_K (dC, dI) vwCl [(dT, .int)] s) (hKN : va_K (dC, dI) vwCl [(dN, .int)] s) (hKO : va_K (dC, dI) vwCl [(dO, .int)] s) {u : List Nat} {fr n : Nat} {g1 og1 : Nat → Int32} (hu : u.length ≤ 40) (h1 : ∀ k, k < u.length → og1 k = nI (u.getD k 0)) (h2 : ∀ k, k < u.length → g1 k = nI (u.getD k 0))
  (kS : ∀ (H : Heap) (locs : List Loc) (ls : Array Slot), tw_Wd dC dI A s (tw_X3 dT dN dO ta wa oa wf og1 ++ tw_WL dB dH h t q b g1 40 (nI u.length)) H locs → lv_has ls 9 [(0, .ref b0), (1, .ref ta), (2, .ref wa), (3, .ref oa), (4, .ref h), (5, .int (nI fr)), (6, .int (nI n))] → W p l e R s m args below meth c H locs cells slots Q (F0 m 461 ls [])) :
    ∀ (k i : Nat) (H : Heap) (locs : List Loc) (ls : Array Slot), i + k = u.length → tw_Wd dC dI A s (tw_X3 dT dN dO ta wa oa wf og1 ++ tw_WL dB dH h t q b g1 40 (nI u.length)) H locs → lv_has ls 9 [(0, .ref b0), (1, .ref ta), (2, .ref wa), (3, .ref oa), (4, .ref h), (5, .int (nI fr)), (6, .int (nI n)), (7, .int (nI u.length)), (8, .int (nI i))] → W p l e R s m args below meth c H locs cells slots Q (F0 m 415 ls []) := by
  have hx := hC.1.1
  have hb := hC.1.2.1
  have hown := hC.1.2.2.2.1
  have hts := hC.1.2.2.2.2
  have hrd : nI u.length = -1 ∨ ∃ k, k ≤ 1024 ∧ nI u.length = nI k := Or.inr ⟨u.length, by omega, rfl⟩
  intro k
  induction k with
  | zero =>
    intro i H locs ls hik hw hl
    refine lv_iload hx hb dX0_anyBytes_415 (lv_at hl 8 rfl) ?_
    refine lv_iload hx hb dX0_anyBytes_417 (lv_at hl 7 rfl) ?_
    refine n_icmp_ge (tgt := 461) hx hb dX0_anyBytes_419 (by decide) (by omega) (by omega) (fun _ => ?_) (fun c9 => absurd c9 (by omega))
    have hl : lv_has ls 9 [(0, .ref b0), (1, .ref ta), (2, .ref wa), (3, .ref oa), (4, .ref h), (5, .int (nI fr)), (6, .int (nI n))] := lv_sub hl [0, 1, 2, 3, 4, 5, 6] rfl
    exact kS H locs ls hw hl
  | succ k ih =>
    intro i H locs ls hik hw hl
    have m1 : i % u.length = i := Nat.mod_eq_of_lt (by omega)
    have m2 : (i + u.length) % u.length = i := by rw [Nat.add_mod_right, m1]
    refine lv_iload hx hb dX0_anyBytes_415 (lv_at hl 8 rfl) ?_
    refine lv_iload hx hb dX0_anyBytes_417 (lv_at hl 7 rfl) ?_
    refine n_icmp_ge (tgt := 461) hx hb dX0_anyBytes_419 (by decide) (by omega) (by omega) (fun c9 => absurd c9 (by omega)) (fun _ => ?_)
    refine lv_aload hx hb dX0_anyBytes_422 (lv_at hl 4 rfl) ?_
    refine lv_iload hx hb dX0_anyBytes_424 (lv_at hl 8 rfl) ?_
    refine c_letter (X := tw_X3 dT dN dO ta wa oa wf og1) hC hcap (by omega) hrd hK hw hl.1 (Nat.le_of_ble_eq_true rfl) dX0_anyBytes_426 (fun H locs hw => ?_)
    have hw : tw_Wd dC dI A s (tw_X3 dT dN dO ta wa oa wf og1 ++ tw_WL dB dH h t q b g1 40 (nI u.length)) H locs := hw
    refine n_top (y := (nI (u.getD i 0))) (by rw [tw_let_gen h2 (by omega) (by omega), m1]) ?_
    refine lv_aload_n hx hb dX0_anyBytes_429 rfl (lv_at hl 3 rfl) ?_
    refine lv_iload hx hb dX0_anyBytes_430 (lv_at hl 8 rfl) ?_
    refine tw_iald hx hb hKO hw 2 0 rfl rfl (by omega) (by decide) dX0_anyBytes_432 ?_
    refine n_top (y := (nI (u.getD i 0))) (h1 i (by omega)) ?_
    refine n_neF (tgt := 453) hx hb dX0_anyBytes_433 (by decide) rfl ?_
    refine lv_aload hx hb dX0_anyBytes_436 (lv_at hl 4 rfl) ?_
    refine lv_iload hx hb dX0_anyBytes_438 (lv_at hl 8 rfl) ?_
    refine lv_iload hx hb dX0_anyBytes_440 (lv_at hl 7 rfl) ?_
    refine n_iadd (r := i + u.length) hx hb dX0_anyBytes_442 rfl ?_
    refine c_letter (X := tw_X3 dT dN dO ta wa oa wf og1) hC hcap (by omega) hrd hK hw hl.1 (Nat.le_of_ble_eq_true rfl) dX0_anyBytes_443 (fun H locs hw => ?_)
    have hw : tw_Wd dC dI A s (tw_X3 dT dN dO ta wa oa wf og1 ++ tw_WL dB dH h t q b g1 40 (nI u.length)) H locs := hw
    refine n_top (y := (nI (u.getD i 0))) (by rw [tw_let_gen h2 (by omega) (by omega), m2]) ?_
    refine lv_aload_n hx hb dX0_anyBytes_446 rfl (lv_at hl 3 rfl) ?_
    refine lv_iload hx hb dX0_anyBytes_447 (lv_at hl 8 rfl) ?_
    refine tw_iald hx hb hKO hw 2 0 rfl rfl (by omega) (by decide) dX0_anyBytes_449 ?_
    refine n_top (y := (nI (u.getD i 0))) (h1 i (by omega)) ?_
    refine n_eqT (tgt := 455) hx hb dX0_anyBytes_450 (by decide) rfl ?_
    refine lv_iinc (lv' := [(8, .int (nI (i + 1))), (0, .ref b0), (1, .ref ta), (2, .ref wa), (3, .ref oa), (4, .ref h), (5, .int (nI fr)), (6, .int (nI n)), (7, .int (nI u.length))]) (k := 8) hx hb dX0_anyBytes_455 hl rfl (n_inc1 rfl) (by decide) rfl (fun ls hl => ?_)
    refine lv_goto (tgt := 415) hx hb dX0_anyBytes_458 (by decide) ?_
    have hl : lv_has ls 9 [(0, .ref b0), (1, .ref ta), (2, .ref wa), (3, .ref oa), (4, .ref h), (5, .int (nI fr)), (6, .int (nI n)), (7, .int (nI u.length)), (8, .int (nI (i + 1)))] := lv_sub hl [1, 2, 3, 4, 5, 6, 7, 8, 0] rfl
    exact ih (i + 1) H locs ls (by omega) hw hl
set_option maxHeartbeats 8000000 in
/-- the middle loop: ranges of up to six bytes from fr on -/
theorem ab_D {p : Program} {l : Launch} {e : Env} {R : Room} {s : State} {m : MethodId} {args : Array Value} {below : List Frame} {meth : Method} {c : Code} {cells slots : Nat} {Q : State → Prop} {dC : Nat → ClassId} {dI : Nat → Nat → Nat} {A : Nat → Prop} {b0 : Nat} {dT dN dO dB dH : ClassId} {ta wa oa h t q : Nat} {b : Nat → Nat} {wf : Nat → Int32}
  (hC : tw_C p c s m args R A cX0_anyBytes 9) (hcap : cells ≤ R.cells ∧ slots ≤ R.slots) (hK : va_K (dC, dI) vwCl [(dB, .byte), (dH, .char)] s) (hKT : va_K (dC, dI) vwCl [(dT, .int)] s) (hKN : va_K (dC, dI) vwCl [(dN, .int)] s) (hKO : va_K (dC, dI) vwCl [(dO, .int)] s) (hb6 : ∀ j, b j < 256) (hwf : ∀ j, j < 40 → wf j = nI (b j)) {fr : Nat} (hfr : fr ≤ 40)
  (kS : ∀ (og g : Nat → Int32) (rd : Int32) (H : Heap) (locs : List Loc) (ls : Array Slot), tw_Wd dC dI A s (tw_X3 dT dN dO ta wa oa wf og ++ tw_WL dB dH h t q b g 40 rd) H locs → lv_has ls 9 [(0, .ref b0), (1, .ref ta), (2, .ref wa), (3, .ref oa), (4, .ref h), (5, .int (nI fr))] → W p l e R s m args below meth c H locs cells slots Q (F0 m 467 ls [])) :
    ∀ (k n : Nat) (og g : Nat → Int32) (rd : Int32) (H : Heap) (locs : List Loc) (ls : Array Slot), n + k = 7 → tw_Wd dC dI A s (tw_X3 dT dN dO ta wa oa wf og ++ tw_WL dB dH h t q b g 40 rd) H locs → lv_has ls 9 [(0, .ref b0), (1, .ref ta), (2, .ref wa), (3, .ref oa), (4, .ref h), (5, .int (nI fr)), (6, .int (nI n))] → W p l e R s m args below meth c H locs cells slots Q (F0 m 344 ls []) := by
  have hx := hC.1.1
  have hb := hC.1.2.1
  have hown := hC.1.2.2.2.1
  have hts := hC.1.2.2.2.2
  have hKU := hKN.app hKO
  intro k
  induction k with
  | zero =>
    intro n og g rd H locs ls hik hw hl
    refine lv_iload hx hb dX0_anyBytes_344 (lv_at hl 6 rfl) ?_
    refine lv_bipush (v := nI 6) hx hb dX0_anyBytes_346 (by decide +kernel) ?_
    refine n_icmp_gt (tgt := 467) hx hb dX0_anyBytes_348 (by decide) (by omega) (by omega) (fun _ => ?_) (fun c9 => absurd c9 (by omega))
    have hl : lv_has ls 9 [(0, .ref b0), (1, .ref ta), (2, .ref wa), (3, .ref oa), (4, .ref h), (5, .int (nI fr))] := lv_sub hl [0, 1, 2, 3, 4, 5] rfl
    exact kS og g rd H locs ls hw hl
  | succ k ih =>
    intro n og g rd H locs ls hik hw hl
    refine lv_iload hx hb dX0_anyBytes_344 (lv_at hl 6 rfl) ?_
    refine lv_bipush (v := nI 6) hx hb dX0_anyBytes_346 (by decide +kernel) ?_
    refine n_icmp_gt (tgt := 467) hx hb dX0_anyBytes_348 (by decide) (by omega) (by omega) (fun c9 => absurd c9 (by omega)) (fun _ => ?_)
    refine lv_iload hx hb dX0_anyBytes_351 (lv_at hl 5 rfl) ?_
    refine lv_iload hx hb dX0_anyBytes_353 (lv_at hl 6 rfl) ?_
    refine n_iadd (r := fr + n) hx hb dX0_anyBytes_355 rfl ?_
    refine lv_bipush (v := nI 40) hx hb dX0_anyBytes_356 (by decide +kernel) ?_
    refine n_icmp_gt (tgt := 467) hx hb dX0_anyBytes_358 (by decide) (by omega) (by omega) (fun c9 => ?_) (fun c9 => ?_)
    · skip
      have hl : lv_has ls 9 [(0, .ref b0), (1, .ref ta), (2, .ref wa), (3, .ref oa), (4, .ref h), (5, .int (nI fr))] := lv_sub hl [0, 1, 2, 3, 4, 5] rfl
      exact kS og g rd H locs ls hw hl
    refine lv_aload_n hx hb dX0_anyBytes_361 rfl (lv_at hl 2 rfl) ?_
    refine lv_iload hx hb dX0_anyBytes_362 (lv_at hl 5 rfl) ?_
    refine lv_iload hx hb dX0_anyBytes_364 (lv_at hl 5 rfl) ?_
    refine lv_iload hx hb dX0_anyBytes_366 (lv_at hl 6 rfl) ?_
    refine n_iadd (r := fr + n) hx hb dX0_anyBytes_368 rfl ?_
    refine lv_aload_n hx hb dX0_anyBytes_369 rfl (lv_at hl 3 rfl) ?_
    have hw := hw.sub (X1 := [(ta, .inl (dT, 32, .inl (tw_tn 32)))] ++ tw_WL dB dH h t q b g 40 rd ++ tw_UT dN dO wa oa wf og) [0, 3, 4, 5, 1, 2] (by decide) rfl rfl
    refine c_units (X := [(ta, .inl (dT, 32, .inl (tw_tn 32)))] ++ tw_WL dB dH h t q b g 40 rd) hC hcap hb6 hwf (by omega) (by omega) hKU hw hl.1 (Nat.le_of_ble_eq_true rfl) dX0_anyBytes_370 (fun r1 og1 H locs ho1 hw => ?_)
    have hw := hw.sub (X1 := tw_X3 dT dN dO ta wa oa wf og1 ++ tw_WL dB dH h t q b g 40 rd) [0, 4, 5, 1, 2, 3] (by decide) rfl rfl
    refine lv_istore (lv' := [(7, .int r1), (0, .ref b0), (1, .ref ta), (2, .ref wa), (3, .ref oa), (4, .ref h), (5, .int (nI fr)), (6, .int (nI n))]) hx hb dX0_anyBytes_373 hl (by decide) rfl (fun ls hl => ?_)
    refine lv_aload hx hb dX0_anyBytes_375 (lv_at hl 5 rfl) ?_
    refine lv_iload hx hb dX0_anyBytes_377 (lv_at hl 6 rfl) ?_
    refine lv_iload hx hb dX0_anyBytes_379 (lv_at hl 7 rfl) ?_
    refine c_read (X := tw_X3 dT dN dO ta wa oa wf og1) hC hcap hb6 (by omega) (by omega) hK hw hl.1 (Nat.le_of_ble_eq_true rfl) dX0_anyBytes_381 (fun r2 g1 H locs ho2 hw => ?_)
    have hw : tw_Wd dC dI A s (tw_X3 dT dN dO ta wa oa wf og1 ++ tw_WL dB dH h t q b g1 40 r2) H locs := hw
    have hdl : ∀ u, tw_dec b fr (fr + n) = some u → fr + u.length ≤ fr + n := fun u hu => tw_dec_len (by omega) hu
    cases hd : tw_dec b fr (fr + n) with
    | none =>
      rw [hd] at ho1 ho2
      have ho1 : r1 = -1 := ho1
      have ho2 : r2 = -1 := ho2
      subst ho1; subst ho2
      refine lv_iload hx hb dX0_anyBytes_384 (lv_at hl 0 rfl) ?_
      refine n_neF (tgt := 410) hx hb dX0_anyBytes_386 (by decide) rfl ?_
      refine lv_aload hx hb dX0_anyBytes_389 (lv_at hl 5 rfl) ?_
      refine lv_iconst (v := nI 0) hx hb dX0_anyBytes_391 (by decide +kernel) ?_
      refine c_letter (X := tw_X3 dT dN dO ta wa oa wf og1) hC hcap (by omega) (Or.inl rfl) hK hw hl.1 (Nat.le_of_ble_eq_true rfl) dX0_anyBytes_392 (fun H locs hw => ?_)
      have hw : tw_Wd dC dI A s (tw_X3 dT dN dO ta wa oa wf og1 ++ tw_WL dB dH h t q b g1 40 (-1)) H locs := hw
      refine n_top (y := (-1)) (if_pos (by decide)) ?_
      refine lv_iload hx hb dX0_anyBytes_395 (lv_at hl 0 rfl) ?_
      refine lv_if_le (tgt := 406) hx hb dX0_anyBytes_397 (by decide) (fun _ => ?_) (fun c8 => absurd (by decide) c8)
      refine lv_iconst (v := -1) hx hb dX0_anyBytes_406 (by decide +kernel) ?_
      refine n_eqT (tgt := 412) hx hb dX0_anyBytes_407 (by decide) rfl ?_
      refine lv_iconst (v := nI 0) hx hb dX0_anyBytes_412 (by decide +kernel) ?_
      refine lv_istore (lv' := [(8, .int (nI 0)), (7, .int (-1)), (0, .ref b0), (1, .ref ta), (2, .ref wa), (3, .ref oa), (4, .ref h), (5, .int (nI fr)), (6, .int (nI n))]) hx hb dX0_anyBytes_413 hl (by decide) rfl (fun ls hl => ?_)
      refine lv_iload hx hb dX0_anyBytes_415 (lv_at hl 0 rfl) ?_
      refine lv_iload hx hb dX0_anyBytes_417 (lv_at hl 1 rfl) ?_
      refine lv_icmp_ge (tgt := 461) hx hb dX0_anyBytes_419 (by decide) (fun _ => ?_) (fun c8 => absurd (by decide) c8)
      refine lv_iinc (lv' := [(6, .int (nI (n + 1))), (8, .int (nI 0)), (7, .int (-1)), (0, .ref b0), (1, .ref ta), (2, .ref wa), (3, .ref oa), (4, .ref h), (5, .int (nI fr))]) (k := 8) hx hb dX0_anyBytes_461 hl rfl (n_inc1 rfl) (by decide) rfl (fun ls hl => ?_)
      refine lv_goto (tgt := 344) hx hb dX0_anyBytes_464 (by decide) ?_
      have hl : lv_has ls 9 [(0, .ref b0), (1, .ref ta), (2, .ref wa), (3, .ref oa), (4, .ref h), (5, .int (nI fr)), (6, .int (nI (n + 1)))] := lv_sub hl [3, 4, 5, 6, 7, 8, 0] rfl
      exact ih (n + 1) og1 g1 (-1) H locs ls (by omega) hw hl
    | some u =>
      have hul := hdl u hd
      rw [hd] at ho1 ho2
      obtain ⟨rfl, h1⟩ : r1 = nI u.length ∧ ∀ k, k < u.length → og1 k = nI (u.getD k 0) := ho1
      obtain ⟨rfl, h2⟩ : r2 = nI u.length ∧ ∀ k, k < u.length → g1 k = nI (u.getD k 0) := ho2
      have hrd : nI u.length = -1 ∨ ∃ k, k ≤ 1024 ∧ nI u.length = nI k := Or.inr ⟨u.length, by omega, rfl⟩
      refine lv_iload hx hb dX0_anyBytes_384 (lv_at hl 0 rfl) ?_
      refine n_neF (tgt := 410) hx hb dX0_anyBytes_386 (by decide) rfl ?_
      refine lv_aload hx hb dX0_anyBytes_389 (lv_at hl 5 rfl) ?_
      refine lv_iconst (v := nI 0) hx hb dX0_anyBytes_391 (by decide +kernel) ?_
      refine c_letter (X := tw_X3 dT dN dO ta wa oa wf og1) hC hcap (by omega) hrd hK hw hl.1 (Nat.le_of_ble_eq_true rfl) dX0_anyBytes_392 (fun H locs hw => ?_)
      have hw : tw_Wd dC dI A s (tw_X3 dT dN dO ta wa oa wf og1 ++ tw_WL dB dH h t q b g1 40 (nI u.length)) H locs := hw
      have kJ : W p l e R s m args below meth c H locs cells slots Q (F0 m 407 ls [.int (tw_let g1 (nI u.length) 0), .int (tw_let g1 (nI u.length) 0)]) := by
        refine n_eqT (tgt := 412) hx hb dX0_anyBytes_407 (by decide) rfl ?_
        refine lv_iconst (v := nI 0) hx hb dX0_anyBytes_412 (by decide +kernel) ?_
        refine lv_istore (lv' := [(8, .int (nI 0)), (7, .int (nI u.length)), (0, .ref b0), (1, .ref ta), (2, .ref wa), (3, .ref oa), (4, .ref h), (5, .int (nI fr)), (6, .int (nI n))]) hx hb dX0_anyBytes_413 hl (by decide) rfl (fun ls hl => ?_)
        have hl : lv_has ls 9 [(0, .ref b0), (1, .ref ta), (2, .ref wa), (3, .ref oa), (4, .ref h), (5, .int (nI fr)), (6, .int (nI n)), (7, .int (nI u.length)), (8, .int (nI 0))] := lv_sub hl [2, 3, 4, 5, 6, 7, 8, 1, 0] rfl
        refine ab_E hC hcap hK hKT hKN hKO (by omega) h1 h2 (fun H locs ls hw hl => ?_) u.length 0 H locs ls (by omega) hw hl
        refine lv_iinc (lv' := [(6, .int (nI (n + 1))), (0, .ref b0), (1, .ref ta), (2, .ref wa), (3, .ref oa), (4, .ref h), (5, .int (nI fr))]) (k := 6) hx hb dX0_anyBytes_461 hl rfl (n_inc1 rfl) (by decide) rfl (fun ls hl => ?_)
        refine lv_goto (tgt := 344) hx hb dX0_anyBytes_464 (by decide) ?_
        have hl : lv_has ls 9 [(0, .ref b0), (1, .ref ta), (2, .ref wa), (3, .ref oa), (4, .ref h), (5, .int (nI fr)), (6, .int (nI (n + 1)))] := lv_sub hl [1, 2, 3, 4, 5, 6, 0] rfl
        exact ih (n + 1) og1 g1 _ H locs ls (by omega) hw hl
      refine lv_iload hx hb dX0_anyBytes_395 (lv_at hl 0 rfl) ?_
      refine n_if_le (tgt := 406) hx hb dX0_anyBytes_397 (by decide) (by omega) (fun c8 => ?_) (fun c8 => ?_)
      · skip
        refine lv_iconst (v := -1) hx hb dX0_anyBytes_406 (by decide +kernel) ?_
        exact n_top (y := (tw_let g1 (nI u.length) 0)) (by rw [c8]; exact (if_pos (by decide)).symm) kJ
      · skip
        refine lv_aload_n hx hb dX0_anyBytes_400 rfl (lv_at hl 4 rfl) ?_
        refine lv_iconst (v := nI 0) hx hb dX0_anyBytes_401 (by decide +kernel) ?_
        refine tw_iald hx hb hKO hw 2 0 rfl rfl (by omega) (by decide) dX0_anyBytes_402 ?_
        refine n_top (y := (tw_let g1 (nI u.length) 0)) (by rw [tw_let_gen h2 c8 (by omega), Nat.zero_mod]; exact h1 0 c8) ?_
        refine lv_goto (tgt := 407) hx hb dX0_anyBytes_403 (by decide) ?_
        exact kJ
set_option maxHeartbeats 4000000 in
/-- the outer loop: every first place -/
theorem ab_C {p : Program} {l : Launch} {e : Env} {R : Room} {s : State} {m : MethodId} {args : Array Value} {below : List Frame} {meth : Method} {c : Code} {cells slots : Nat} {Q : State → Prop} {dC : Nat → ClassId} {dI : Nat → Nat → Nat} {A : Nat → Prop} {b0 : Nat} {dT dN dO dB dH : ClassId} {ta wa oa h t q : Nat} {b : Nat → Nat} {wf : Nat → Int32}
  (hC : tw_C p c s m args R A cX0_anyBytes 9) (hcap : cells ≤ R.cells ∧ slots ≤ R.slots) (hK : va_K (dC, dI) vwCl [(dB, .byte), (dH, .char)] s) (hKT : va_K (dC, dI) vwCl [(dT, .int)] s) (hKN : va_K (dC, dI) vwCl [(dN, .int)] s) (hKO : va_K (dC, dI) vwCl [(dO, .int)] s) (hb6 : ∀ j, b j < 256) (hwf : ∀ j, j < 40 → wf j = nI (b j))
  (kR : ∀ (X : va_W) (pc : Nat) (ls : Array Slot) (H : Heap) (locs : List Loc), decode cX0_anyBytes pc = .ok (.ireturn, 1) → tw_Wd dC dI A s X H locs → W p l e R s m args below meth c H locs cells slots Q (F0 m pc ls [.int (nI 1)])) :
    ∀ (k fr : Nat) (og g : Nat → Int32) (rd : Int32) (H : Heap) (locs : List Loc) (ls : Array Slot), fr + k = 41 → tw_Wd dC dI A s (tw_X3 dT dN dO ta wa oa wf og ++ tw_WL dB dH h t q b g 40 rd) H locs → lv_has ls 9 [(0, .ref b0), (1, .ref ta), (2, .ref wa), (3, .ref oa), (4, .ref h), (5, .int (nI fr))] → W p l e R s m args below meth c H locs cells slots Q (F0 m 334 ls []) := by
  have hx := hC.1.1
  have hb := hC.1.2.1
  have hown := hC.1.2.2.2.1
  have hts := hC.1.2.2.2.2
  intro k
  induction k with
  | zero =>
    intro fr og g rd H locs ls hik hw hl
    refine lv_iload hx hb dX0_anyBytes_334 (lv_at hl 5 rfl) ?_
    refine lv_bipush (v := nI 40) hx hb dX0_anyBytes_336 (by decide +kernel) ?_
    refine n_icmp_gt (tgt := 473) hx hb dX0_anyBytes_338 (by decide) (by omega) (by omega) (fun _ => ?_) (fun c9 => absurd c9 (by omega))
    refine lv_iconst (v := nI 1) hx hb dX0_anyBytes_473 (by decide +kernel) ?_
    exact kR _ 474 _ H locs dX0_anyBytes_474 hw
  | succ k ih =>
    intro fr og g rd H locs ls hik hw hl
    refine lv_iload hx hb dX0_anyBytes_334 (lv_at hl 5 rfl) ?_
    refine lv_bipush (v := nI 40) hx hb dX0_anyBytes_336 (by decide +kernel) ?_
    refine n_icmp_gt (tgt := 473) hx hb dX0_anyBytes_338 (by decide) (by omega) (by omega) (fun c9 => absurd c9 (by omega)) (fun _ => ?_)
    refine lv_iconst (v := nI 0) hx hb dX0_anyBytes_341 (by decide +kernel) ?_
    refine lv_istore (lv' := [(6, .int (nI 0)), (0, .ref b0), (1, .ref ta), (2, .ref wa), (3, .ref oa), (4, .ref h), (5, .int (nI fr))]) hx hb dX0_anyBytes_342 hl (by decide) rfl (fun ls hl => ?_)
    have hl : lv_has ls 9 [(0, .ref b0), (1, .ref ta), (2, .ref wa), (3, .ref oa), (4, .ref h), (5, .int (nI fr)), (6, .int (nI 0))] := lv_sub hl [1, 2, 3, 4, 5, 6, 0] rfl
    refine ab_D hC hcap hK hKT hKN hKO hb6 hwf (by omega) (fun og g rd H locs ls hw hl => ?_) 7 0 og g rd H locs ls (by omega) hw hl
    refine lv_iinc (lv' := [(5, .int (nI (fr + 1))), (0, .ref b0), (1, .ref ta), (2, .ref wa), (3, .ref oa), (4, .ref h)]) (k := 5) hx hb dX0_anyBytes_467 hl rfl (n_inc1 rfl) (by decide) rfl (fun ls hl => ?_)
    refine lv_goto (tgt := 334) hx hb dX0_anyBytes_470 (by decide) ?_
    have hl : lv_has ls 9 [(0, .ref b0), (1, .ref ta), (2, .ref wa), (3, .ref oa), (4, .ref h), (5, .int (nI (fr + 1)))] := lv_sub hl [1, 2, 3, 4, 5, 0] rfl
    exact ih (fr + 1) og g rd H locs ls (by omega) hw hl
set_option maxHeartbeats 4000000 in
/-- the bytes are drawn -/
theorem ab_B {p : Program} {l : Launch} {e : Env} {R : Room} {s : State} {m : MethodId} {args : Array Value} {below : List Frame} {meth : Method} {c : Code} {cells slots : Nat} {Q : State → Prop} {dC : Nat → ClassId} {dI : Nat → Nat → Nat} {A : Nat → Prop} {b0 : Nat} {dT dN dO dB dH : ClassId} {ta wa oa h t q : Nat} {L : Nat} {xs : Nat → Int32}
  (hC : tw_C p c s m args R A cX0_anyBytes 9) (hcap : cells ≤ R.cells ∧ slots ≤ R.slots) (hK : va_K (dC, dI) vwCl [(dB, .byte), (dH, .char)] s) (hKT : va_K (dC, dI) vwCl [(dT, .int)] s) (hKN : va_K (dC, dI) vwCl [(dN, .int)] s) (hKO : va_K (dC, dI) vwCl [(dO, .int)] s) (hX : va_X b0 L xs s s.heap) (hbl : b0 < s.heap.size) (hbA : ¬ A b0) (hL : L ≤ 40)
  (kS : ∀ (b : Nat → Nat) (wf : Nat → Int32) (H : Heap) (locs : List Loc) (ls : Array Slot), (∀ j, b j < 256) → (∀ j, j < 40 → wf j = nI (b j)) → tw_Wd dC dI A s (tw_X3 dT dN dO ta wa oa wf (fun _ => nI 0) ++ tw_WL dB dH h t q b (fun _ => nI 0) 40 (nI 0)) H locs → lv_has ls 9 [(0, .ref b0), (1, .ref ta), (2, .ref wa), (3, .ref oa), (4, .ref h)] → W p l e R s m args below meth c H locs cells slots Q (F0 m 331 ls [])) :
    ∀ (k i : Nat) (b : Nat → Nat) (wf : Nat → Int32) (H : Heap) (locs : List Loc) (ls : Array Slot), i + k = 40 → (∀ j, b j < 256) → (∀ j, j < 40 → wf j = nI (b j)) → tw_Wd dC dI A s (tw_X3 dT dN dO ta wa oa wf (fun _ => nI 0) ++ tw_WL dB dH h t q b (fun _ => nI 0) 40 (nI 0)) H locs → lv_has ls 9 [(0, .ref b0), (1, .ref ta), (2, .ref wa), (3, .ref oa), (4, .ref h), (5, .int (nI i))] → W p l e R s m args below meth c H locs cells slots Q (F0 m 272 ls []) := by
  have hx := hC.1.1
  have hb := hC.1.2.1
  have hown := hC.1.2.2.2.1
  have hts := hC.1.2.2.2.2
  intro k
  induction k with
  | zero =>
    intro i b wf H locs ls hik hb6 hwf hw hl
    refine lv_iload hx hb dX0_anyBytes_272 (lv_at hl 5 rfl) ?_
    refine lv_bipush (v := nI 40) hx hb dX0_anyBytes_274 (by decide +kernel) ?_
    refine n_icmp_ge (tgt := 331) hx hb dX0_anyBytes_276 (by decide) (by omega) (by omega) (fun _ => ?_) (fun c9 => absurd c9 (by omega))
    have hl : lv_has ls 9 [(0, .ref b0), (1, .ref ta), (2, .ref wa), (3, .ref oa), (4, .ref h)] := lv_sub hl [0, 1, 2, 3, 4] rfl
    exact kS b wf H locs ls hb6 hwf hw hl
  | succ k ih =>
    intro i b wf H locs ls hik hb6 hwf hw hl
    refine lv_iload hx hb dX0_anyBytes_272 (lv_at hl 5 rfl) ?_
    refine lv_bipush (v := nI 40) hx hb dX0_anyBytes_274 (by decide +kernel) ?_
    refine n_icmp_ge (tgt := 331) hx hb dX0_anyBytes_276 (by decide) (by omega) (by omega) (fun c9 => absurd c9 (by omega)) (fun _ => ?_)
    refine lv_aload_n hx hb dX0_anyBytes_279 rfl (lv_at hl 0 rfl) ?_
    refine lv_iload hx hb dX0_anyBytes_280 (lv_at hl 5 rfl) ?_
    refine c_cell (X := tw_X3 dT dN dO ta wa oa wf (fun _ => nI 0) ++ tw_WL dB dH h t q b (fun _ => nI 0) 40 (nI 0)) hC hcap hL (by omega) hX hbl hbA hw hl.1 (Nat.le_of_ble_eq_true rfl) dX0_anyBytes_282 (fun H locs hw => ?_)
    have hw : tw_Wd dC dI A s (tw_X3 dT dN dO ta wa oa wf (fun _ => nI 0) ++ tw_WL dB dH h t q b (fun _ => nI 0) 40 (nI 0)) H locs := hw
    refine lv_bipush (v := nI 7) hx hb dX0_anyBytes_285 (by decide +kernel) ?_
    refine lv_iload hx hb dX0_anyBytes_287 (lv_at hl 5 rfl) ?_
    refine n_imul (r := 7 * i) hx hb dX0_anyBytes_289 rfl ?_
    refine lv_iadd hx hb dX0_anyBytes_290 ?_
    refine lv_topi (fun c6 _ => ?_)
    have hj := Nat.mod_lt c6.toBitVec.toNat (show 0 < 32 by decide)
    have hv := tw_tl_256 (c6.toBitVec.toNat % 32) hj
    refine lv_istore (lv' := [(6, .int c6), (0, .ref b0), (1, .ref ta), (2, .ref wa), (3, .ref oa), (4, .ref h), (5, .int (nI i))]) hx hb dX0_anyBytes_291 hl (by decide) rfl (fun ls hl => ?_)
    refine lv_aload_n hx hb dX0_anyBytes_293 rfl (lv_at hl 3 rfl) ?_
    refine lv_iload hx hb dX0_anyBytes_294 (lv_at hl 6 rfl) ?_
    refine lv_aload_n hx hb dX0_anyBytes_296 rfl (lv_at hl 2 rfl) ?_
    refine lv_iload hx hb dX0_anyBytes_297 (lv_at hl 0 rfl) ?_
    refine lv_bipush (v := nI 31) hx hb dX0_anyBytes_299 (by decide +kernel) ?_
    refine n_iand (r := c6.toBitVec.toNat % 32) hx hb dX0_anyBytes_301 5 (by decide +kernel) rfl ?_
    refine tw_iald hx hb hKT hw 0 0 rfl rfl (by omega) (by decide) dX0_anyBytes_302 ?_
    refine n_top (y := (nI (tw_tl.getD (c6.toBitVec.toNat % 32) 0))) (if_pos hj) ?_
    generalize hve : tw_tl.getD (c6.toBitVec.toNat % 32) 0 = v at hv ⊢
    refine tw_iast (X1 := tw_X3 dT dN dO ta wa oa (upd wf i (nI v)) (fun _ => nI 0) ++ tw_WL dB dH h t q b (fun _ => nI 0) 40 (nI 0)) hx hb hKN hw 1 0 rfl rfl (by omega) (by decide) rfl dX0_anyBytes_303 (fun H locs hw => ?_)
    refine lv_aload hx hb dX0_anyBytes_304 (lv_at hl 5 rfl) ?_
    refine lv_iload hx hb dX0_anyBytes_306 (lv_at hl 6 rfl) ?_
    refine lv_bipush (v := nI 40) hx hb dX0_anyBytes_308 (by decide +kernel) ?_
    refine n_iadd (r := i + 40) hx hb dX0_anyBytes_310 rfl ?_
    refine lv_aload_n hx hb dX0_anyBytes_311 rfl (lv_at hl 3 rfl) ?_
    refine lv_iload hx hb dX0_anyBytes_312 (lv_at hl 6 rfl) ?_
    refine tw_iald hx hb hKN hw 1 0 rfl rfl (by omega) (by decide) dX0_anyBytes_314 ?_
    refine n_top (y := (nI v)) pk_us ?_
    refine lv_iload hx hb dX0_anyBytes_315 (lv_at hl 0 rfl) ?_
    refine lv_sipush (v := -256) hx hb dX0_anyBytes_317 (by decide +kernel) ?_
    refine lv_iand hx hb dX0_anyBytes_320 ?_
    refine lv_ior hx hb dX0_anyBytes_321 ?_
    refine c_spoil (X := tw_X3 dT dN dO ta wa oa (upd wf i (nI v)) (fun _ => nI 0)) hC hcap (by decide) (by decide) (by omega) hK hw hl.1 (Nat.le_of_ble_eq_true rfl) dX0_anyBytes_322 (fun H locs hw => ?_)
    rw [tw_mix hv, show (i + 40) % 40 = i by omega] at hw
    have hw : tw_Wd dC dI A s (tw_X3 dT dN dO ta wa oa (upd wf i (nI v)) (fun _ => nI 0) ++ tw_WL dB dH h t q (tw_up b i v) (fun _ => nI 0) 40 (nI 0)) H locs := hw
    refine lv_iinc (lv' := [(5, .int (nI (i + 1))), (6, .int c6), (0, .ref b0), (1, .ref ta), (2, .ref wa), (3, .ref oa), (4, .ref h)]) (k := 6) hx hb dX0_anyBytes_325 hl rfl (n_inc1 rfl) (by decide) rfl (fun ls hl => ?_)
    refine lv_goto (tgt := 272) hx hb dX0_anyBytes_328 (by decide) ?_
    have hl : lv_has ls 9 [(0, .ref b0), (1, .ref ta), (2, .ref wa), (3, .ref oa), (4, .ref h), (5, .int (nI (i + 1)))] := lv_sub hl [2, 3, 4, 5, 6, 0] rfl
    refine ih (i + 1) (tw_up b i v) (upd wf i (nI v)) H locs ls (by omega) (fun j => ?_) (fun j hj40 => ?_) hw hl
    · show (if j = i then v else b j) < 256
      split
      · exact hv
      · exact hb6 j
    · show (if j = i then nI v else wf j) = nI (if j = i then v else b j)
      split
      · rfl
      · exact hwf j hj40
set_option maxHeartbeats 4000000 in
/-- forty bytes are laid -/
theorem ab_A {p : Program} {l : Launch} {e : Env} {R : Room} {s : State} {m : MethodId} {args : Array Value} {below : List Frame} {meth : Method} {c : Code} {cells slots : Nat} {Q : State → Prop} {dC : Nat → ClassId} {dI : Nat → Nat → Nat} {A : Nat → Prop} {b0 : Nat} {dT dN dO dB dH : ClassId} {ta wa oa h t q : Nat}
  (hC : tw_C p c s m args R A cX0_anyBytes 9) (hcap : cells ≤ R.cells ∧ slots ≤ R.slots) (hK : va_K (dC, dI) vwCl [(dB, .byte), (dH, .char)] s) (hKT : va_K (dC, dI) vwCl [(dT, .int)] s) (hKN : va_K (dC, dI) vwCl [(dN, .int)] s) (hKO : va_K (dC, dI) vwCl [(dO, .int)] s)
  (kS : ∀ (b : Nat → Nat) (H : Heap) (locs : List Loc) (ls : Array Slot), (∀ j, b j = 0) → tw_Wd dC dI A s (tw_X3 dT dN dO ta wa oa (fun _ => nI 0) (fun _ => nI 0) ++ tw_WL dB dH h t q b (fun _ => nI 0) 40 (nI 0)) H locs → lv_has ls 9 [(0, .ref b0), (1, .ref ta), (2, .ref wa), (3, .ref oa), (4, .ref h)] → W p l e R s m args below meth c H locs cells slots Q (F0 m 269 ls [])) :
    ∀ (k i : Nat) (b : Nat → Nat) (H : Heap) (locs : List Loc) (ls : Array Slot), i + k = 40 → (∀ j, b j = 0) → tw_Wd dC dI A s (tw_X3 dT dN dO ta wa oa (fun _ => nI 0) (fun _ => nI 0) ++ tw_WL dB dH h t q b (fun _ => nI 0) i (nI 0)) H locs → lv_has ls 9 [(0, .ref b0), (1, .ref ta), (2, .ref wa), (3, .ref oa), (4, .ref h), (5, .int (nI i))] → W p l e R s m args below meth c H locs cells slots Q (F0 m 241 ls []) := by
  have hx := hC.1.1
  have hb := hC.1.2.1
  have hown := hC.1.2.2.2.1
  have hts := hC.1.2.2.2.2
  intro k
  induction k with
  | zero =>
    intro i b H locs ls hik hb0 hw hl
    obtain rfl : i = 40 := by omega
    refine lv_iload hx hb dX0_anyBytes_241 (lv_at hl 5 rfl) ?_
    refine lv_bipush (v := nI 40) hx hb dX0_anyBytes_243 (by decide +kernel) ?_
    refine n_icmp_ge (tgt := 269) hx hb dX0_anyBytes_245 (by decide) (by omega) (by omega) (fun _ => ?_) (fun c9 => absurd c9 (by omega))
    have hl : lv_has ls 9 [(0, .ref b0), (1, .ref ta), (2, .ref wa), (3, .ref oa), (4, .ref h)] := lv_sub hl [0, 1, 2, 3, 4] rfl
    exact kS b H locs ls hb0 hw hl
  | succ k ih =>
    intro i b H locs ls hik hb0 hw hl
    refine lv_iload hx hb dX0_anyBytes_241 (lv_at hl 5 rfl) ?_
    refine lv_bipush (v := nI 40) hx hb dX0_anyBytes_243 (by decide +kernel) ?_
    refine n_icmp_ge (tgt := 269) hx hb dX0_anyBytes_245 (by decide) (by omega) (by omega) (fun c9 => absurd c9 (by omega)) (fun _ => ?_)
    refine lv_aload hx hb dX0_anyBytes_248 (lv_at hl 4 rfl) ?_
    refine lv_iconst (v := nI 0) hx hb dX0_anyBytes_250 (by decide +kernel) ?_
    refine c_lay (X := tw_X3 dT dN dO ta wa oa (fun _ => nI 0) (fun _ => nI 0)) hC hcap (by omega) hK hw hl.1 (Nat.le_of_ble_eq_true rfl) dX0_anyBytes_251 (fun H locs hw => ?_)
    have hw : tw_Wd dC dI A s (tw_X3 dT dN dO ta wa oa (fun _ => nI 0) (fun _ => nI 0) ++ tw_WL dB dH h t q (tw_layB b i (nI 0)) (fun _ => nI 0) (tw_layN i (nI 0)) (nI 0)) H locs := hw
    have hp : tw_num (nI 0) = 0 := by decide +kernel
    have e1 : tw_layB b i (nI 0) = tw_up b i 0 := by unfold tw_layB; rw [if_pos (by omega), hp]; rfl
    have e2 : tw_layN i (nI 0) = i + 1 := by unfold tw_layN; rw [if_pos (by omega), hp]; rfl
    have e3 : tw_layR i (nI 0) = nI (i + 1) := by unfold tw_layR; rw [if_pos (by omega), e2]
    rw [e1, e2] at hw
    refine n_top (y := (nI (i + 1))) e3 ?_
    refine lv_iload hx hb dX0_anyBytes_254 (lv_at hl 5 rfl) ?_
    refine lv_iconst (v := nI 1) hx hb dX0_anyBytes_256 (by decide +kernel) ?_
    refine n_iadd (r := i + 1) hx hb dX0_anyBytes_257 rfl ?_
    refine n_eqT (tgt := 263) hx hb dX0_anyBytes_258 (by decide) rfl ?_
    refine lv_iinc (lv' := [(5, .int (nI (i + 1))), (0, .ref b0), (1, .ref ta), (2, .ref wa), (3, .ref oa), (4, .ref h)]) (k := 5) hx hb dX0_anyBytes_263 hl rfl (n_inc1 rfl) (by decide) rfl (fun ls hl => ?_)
    refine lv_goto (tgt := 241) hx hb dX0_anyBytes_266 (by decide) ?_
    have hl : lv_has ls 9 [(0, .ref b0), (1, .ref ta), (2, .ref wa), (3, .ref oa), (4, .ref h), (5, .int (nI (i + 1)))] := lv_sub hl [1, 2, 3, 4, 5, 0] rfl
    refine ih (i + 1) (tw_up b i 0) H locs ls (by omega) (fun j => ?_) hw hl
    show (if j = i then 0 else b j) = 0
    split
    · rfl
    · exact hb0 j
set_option maxHeartbeats 4000000 in
/-- anyBytes' body -/
theorem ab_body {p : Program} {l : Launch} {e : Env} {R : Room} {s : State} {m : MethodId} {args : Array Value} {below : List Frame} {meth : Method} {c : Code} {Q : State → Prop} {dC : Nat → ClassId} {dI : Nat → Nat → Nat} {A : Nat → Prop} {b0 L : Nat} {xs : Nat → Int32}
  (hC : tw_C p c s m args R A cX0_anyBytes 9) (hcap9 : 6 ≤ R.cells ∧ 2204 ≤ R.slots) (hX : va_X b0 L xs s s.heap) (hbl : b0 < s.heap.size) (hbA : ¬ A b0) (hL : L ≤ 40) (hK0 : va_K (dC, dI) vwCl [] s)
  (kR : ∀ (X : va_W) (pc : Nat) (ls : Array Slot) (H : Heap) (locs : List Loc), decode cX0_anyBytes pc = .ok (.ireturn, 1) → tw_Wd dC dI A s X H locs → W p l e R s m args below meth c H locs 6 2204 Q (F0 m pc ls [.int (nI 1)])) (ls : Array Slot) (hl : lv_has ls 9 [(0, .ref b0)]) : W p l e R s m args below meth c s.heap [] 0 0 Q (F0 m 0 ls []) := by
  have hx := hC.1.1
  have hb := hC.1.2.1
  have hown := hC.1.2.2.2.1
  have hts := hC.1.2.2.2.2
  have hcap := hcap9
  have hw : tw_Wd dC dI A s [] s.heap [] := tw_empty
  refine lv_bipush (v := nI 32) hx hb dX0_anyBytes_0 (by decide +kernel) ?_
  refine c_newi (X := []) (tw_tn 0) (fun j => if_neg (by omega)) hC ⟨by omega, by omega⟩ (by decide) hK0 hw dX0_anyBytes_2 (fun ta dT H hKT hw => ?_)
  refine lv_dup hx hb dX0_anyBytes_4 rfl ?_
  refine lv_iconst (v := nI 0) hx hb dX0_anyBytes_5 (by decide +kernel) ?_
  refine lv_iconst (v := nI 0) hx hb dX0_anyBytes_6 (by decide +kernel) ?_
  refine tw_iast (X1 := [(ta, .inl (dT, 32, .inl (tw_tn 1)))]) hx hb hKT hw 0 0 rfl rfl (by decide) (by decide) (by rw [tw_tn_s 0 0 rfl]; rfl) dX0_anyBytes_7 (fun H locs hw => ?_)
  refine lv_dup hx hb dX0_anyBytes_8 rfl ?_
  refine lv_iconst (v := nI 1) hx hb dX0_anyBytes_9 (by decide +kernel) ?_
  refine lv_bipush (v := nI 65) hx hb dX0_anyBytes_10 (by decide +kernel) ?_
  refine tw_iast (X1 := [(ta, .inl (dT, 32, .inl (tw_tn 2)))]) hx hb hKT hw 0 0 rfl rfl (by decide) (by decide) (by rw [tw_tn_s 1 65 rfl]; rfl) dX0_anyBytes_12 (fun H locs hw => ?_)
  refine lv_dup hx hb dX0_anyBytes_13 rfl ?_
  refine lv_iconst (v := nI 2) hx hb dX0_anyBytes_14 (by decide +kernel) ?_
  refine lv_bipush (v := nI 127) hx hb dX0_anyBytes_15 (by decide +kernel) ?_
  refine tw_iast (X1 := [(ta, .inl (dT, 32, .inl (tw_tn 3)))]) hx hb hKT hw 0 0 rfl rfl (by decide) (by decide) (by rw [tw_tn_s 2 127 rfl]; rfl) dX0_anyBytes_17 (fun H locs hw => ?_)
  refine lv_dup hx hb dX0_anyBytes_18 rfl ?_
  refine lv_iconst (v := nI 3) hx hb dX0_anyBytes_19 (by decide +kernel) ?_
  refine lv_sipush (v := nI 128) hx hb dX0_anyBytes_20 (by decide +kernel) ?_
  refine tw_iast (X1 := [(ta, .inl (dT, 32, .inl (tw_tn 4)))]) hx hb hKT hw 0 0 rfl rfl (by decide) (by decide) (by rw [tw_tn_s 3 128 rfl]; rfl) dX0_anyBytes_23 (fun H locs hw => ?_)
  refine lv_dup hx hb dX0_anyBytes_24 rfl ?_
  refine lv_iconst (v := nI 4) hx hb dX0_anyBytes_25 (by decide +kernel) ?_
  refine lv_sipush (v := nI 143) hx hb dX0_anyBytes_26 (by decide +kernel) ?_
  refine tw_iast (X1 := [(ta, .inl (dT, 32, .inl (tw_tn 5)))]) hx hb hKT hw 0 0 rfl rfl (by decide) (by decide) (by rw [tw_tn_s 4 143 rfl]; rfl) dX0_anyBytes_29 (fun H locs hw => ?_)
  refine lv_dup hx hb dX0_anyBytes_30 rfl ?_
  refine lv_iconst (v := nI 5) hx hb dX0_anyBytes_31 (by decide +kernel) ?_
  refine lv_sipush (v := nI 144) hx hb dX0_anyBytes_32 (by decide +kernel) ?_
  refine tw_iast (X1 := [(ta, .inl (dT, 32, .inl (tw_tn 6)))]) hx hb hKT hw 0 0 rfl rfl (by decide) (by decide) (by rw [tw_tn_s 5 144 rfl]; rfl) dX0_anyBytes_35 (fun H locs hw => ?_)
  refine lv_dup hx hb dX0_anyBytes_36 rfl ?_
  refine lv_bipush (v := nI 6) hx hb dX0_anyBytes_37 (by decide +kernel) ?_
  refine lv_sipush (v := nI 159) hx hb dX0_anyBytes_39 (by decide +kernel) ?_
  refine tw_iast (X1 := [(ta, .inl (dT, 32, .inl (tw_tn 7)))]) hx hb hKT hw 0 0 rfl rfl (by decide) (by decide) (by rw [tw_tn_s 6 159 rfl]; rfl) dX0_anyBytes_42 (fun H locs hw => ?_)
  refine lv_dup hx hb dX0_anyBytes_43 rfl ?_
  refine lv_bipush (v := nI 7) hx hb dX0_anyBytes_44 (by decide +kernel) ?_
  refine lv_sipush (v := nI 160) hx hb dX0_anyBytes_46 (by decide +kernel) ?_
  refine tw_iast (X1 := [(ta, .inl (dT, 32, .inl (tw_tn 8)))]) hx hb hKT hw 0 0 rfl rfl (by decide) (by decide) (by rw [tw_tn_s 7 160 rfl]; rfl) dX0_anyBytes_49 (fun H locs hw => ?_)
  refine lv_dup hx hb dX0_anyBytes_50 rfl ?_
  refine lv_bipush (v := nI 8) hx hb dX0_anyBytes_51 (by decide +kernel) ?_
  refine lv_sipush (v := nI 191) hx hb dX0_anyBytes_53 (by decide +kernel) ?_
  refine tw_iast (X1 := [(ta, .inl (dT, 32, .inl (tw_tn 9)))]) hx hb hKT hw 0 0 rfl rfl (by decide) (by decide) (by rw [tw_tn_s 8 191 rfl]; rfl) dX0_anyBytes_56 (fun H locs hw => ?_)
  refine lv_dup hx hb dX0_anyBytes_57 rfl ?_
  refine lv_bipush (v := nI 9) hx hb dX0_anyBytes_58 (by decide +kernel) ?_
  refine lv_sipush (v := nI 192) hx hb dX0_anyBytes_60 (by decide +kernel) ?_
  refine tw_iast (X1 := [(ta, .inl (dT, 32, .inl (tw_tn 10)))]) hx hb hKT hw 0 0 rfl rfl (by decide) (by decide) (by rw [tw_tn_s 9 192 rfl]; rfl) dX0_anyBytes_63 (fun H locs hw => ?_)
  refine lv_dup hx hb dX0_anyBytes_64 rfl ?_
  refine lv_bipush (v := nI 10) hx hb dX0_anyBytes_65 (by decide +kernel) ?_
  refine lv_sipush (v := nI 193) hx hb dX0_anyBytes_67 (by decide +kernel) ?_
  refine tw_iast (X1 := [(ta, .inl (dT, 32, .inl (tw_tn 11)))]) hx hb hKT hw 0 0 rfl rfl (by decide) (by decide) (by rw [tw_tn_s 10 193 rfl]; rfl) dX0_anyBytes_70 (fun H locs hw => ?_)
  refine lv_dup hx hb dX0_anyBytes_71 rfl ?_
  refine lv_bipush (v := nI 11) hx hb dX0_anyBytes_72 (by decide +kernel) ?_
  refine lv_sipush (v := nI 194) hx hb dX0_anyBytes_74 (by decide +kernel) ?_
  refine tw_iast (X1 := [(ta, .inl (dT, 32, .inl (tw_tn 12)))]) hx hb hKT hw 0 0 rfl rfl (by decide) (by decide) (by rw [tw_tn_s 11 194 rfl]; rfl) dX0_anyBytes_77 (fun H locs hw => ?_)
  refine lv_dup hx hb dX0_anyBytes_78 rfl ?_
  refine lv_bipush (v := nI 12) hx hb dX0_anyBytes_79 (by decide +kernel) ?_
  refine lv_sipush (v := nI 223) hx hb dX0_anyBytes_81 (by decide +kernel) ?_
  refine tw_iast (X1 := [(ta, .inl (dT, 32, .inl (tw_tn 13)))]) hx hb hKT hw 0 0 rfl rfl (by decide) (by decide) (by rw [tw_tn_s 12 223 rfl]; rfl) dX0_anyBytes_84 (fun H locs hw => ?_)
  refine lv_dup hx hb dX0_anyBytes_85 rfl ?_
  refine lv_bipush (v := nI 13) hx hb dX0_anyBytes_86 (by decide +kernel) ?_
  refine lv_sipush (v := nI 224) hx hb dX0_anyBytes_88 (by decide +kernel) ?_
  refine tw_iast (X1 := [(ta, .inl (dT, 32, .inl (tw_tn 14)))]) hx hb hKT hw 0 0 rfl rfl (by decide) (by decide) (by rw [tw_tn_s 13 224 rfl]; rfl) dX0_anyBytes_91 (fun H locs hw => ?_)
  refine lv_dup hx hb dX0_anyBytes_92 rfl ?_
  refine lv_bipush (v := nI 14) hx hb dX0_anyBytes_93 (by decide +kernel) ?_
  refine lv_sipush (v := nI 225) hx hb dX0_anyBytes_95 (by decide +kernel) ?_
  refine tw_iast (X1 := [(ta, .inl (dT, 32, .inl (tw_tn 15)))]) hx hb hKT hw 0 0 rfl rfl (by decide) (by decide) (by rw [tw_tn_s 14 225 rfl]; rfl) dX0_anyBytes_98 (fun H locs hw => ?_)
  refine lv_dup hx hb dX0_anyBytes_99 rfl ?_
  refine lv_bipush (v := nI 15) hx hb dX0_anyBytes_100 (by decide +kernel) ?_
  refine lv_sipush (v := nI 236) hx hb dX0_anyBytes_102 (by decide +kernel) ?_
  refine tw_iast (X1 := [(ta, .inl (dT, 32, .inl (tw_tn 16)))]) hx hb hKT hw 0 0 rfl rfl (by decide) (by decide) (by rw [tw_tn_s 15 236 rfl]; rfl) dX0_anyBytes_105 (fun H locs hw => ?_)
  refine lv_dup hx hb dX0_anyBytes_106 rfl ?_
  refine lv_bipush (v := nI 16) hx hb dX0_anyBytes_107 (by decide +kernel) ?_
  refine lv_sipush (v := nI 237) hx hb dX0_anyBytes_109 (by decide +kernel) ?_
  refine tw_iast (X1 := [(ta, .inl (dT, 32, .inl (tw_tn 17)))]) hx hb hKT hw 0 0 rfl rfl (by decide) (by decide) (by rw [tw_tn_s 16 237 rfl]; rfl) dX0_anyBytes_112 (fun H locs hw => ?_)
  refine lv_dup hx hb dX0_anyBytes_113 rfl ?_
  refine lv_bipush (v := nI 17) hx hb dX0_anyBytes_114 (by decide +kernel) ?_
  refine lv_sipush (v := nI 238) hx hb dX0_anyBytes_116 (by decide +kernel) ?_
  refine tw_iast (X1 := [(ta, .inl (dT, 32, .inl (tw_tn 18)))]) hx hb hKT hw 0 0 rfl rfl (by decide) (by decide) (by rw [tw_tn_s 17 238 rfl]; rfl) dX0_anyBytes_119 (fun H locs hw => ?_)
  refine lv_dup hx hb dX0_anyBytes_120 rfl ?_
  refine lv_bipush (v := nI 18) hx hb dX0_anyBytes_121 (by decide +kernel) ?_
  refine lv_sipush (v := nI 239) hx hb dX0_anyBytes_123 (by decide +kernel) ?_
  refine tw_iast (X1 := [(ta, .inl (dT, 32, .inl (tw_tn 19)))]) hx hb hKT hw 0 0 rfl rfl (by decide) (by decide) (by rw [tw_tn_s 18 239 rfl]; rfl) dX0_anyBytes_126 (fun H locs hw => ?_)
  refine lv_dup hx hb dX0_anyBytes_127 rfl ?_
  refine lv_bipush (v := nI 19) hx hb dX0_anyBytes_128 (by decide +kernel) ?_
  refine lv_sipush (v := nI 240) hx hb dX0_anyBytes_130 (by decide +kernel) ?_
  refine tw_iast (X1 := [(ta, .inl (dT, 32, .inl (tw_tn 20)))]) hx hb hKT hw 0 0 rfl rfl (by decide) (by decide) (by rw [tw_tn_s 19 240 rfl]; rfl) dX0_anyBytes_133 (fun H locs hw => ?_)
  refine lv_dup hx hb dX0_anyBytes_134 rfl ?_
  refine lv_bipush (v := nI 20) hx hb dX0_anyBytes_135 (by decide +kernel) ?_
  refine lv_sipush (v := nI 241) hx hb dX0_anyBytes_137 (by decide +kernel) ?_
  refine tw_iast (X1 := [(ta, .inl (dT, 32, .inl (tw_tn 21)))]) hx hb hKT hw 0 0 rfl rfl (by decide) (by decide) (by rw [tw_tn_s 20 241 rfl]; rfl) dX0_anyBytes_140 (fun H locs hw => ?_)
  refine lv_dup hx hb dX0_anyBytes_141 rfl ?_
  refine lv_bipush (v := nI 21) hx hb dX0_anyBytes_142 (by decide +kernel) ?_
  refine lv_sipush (v := nI 243) hx hb dX0_anyBytes_144 (by decide +kernel) ?_
  refine tw_iast (X1 := [(ta, .inl (dT, 32, .inl (tw_tn 22)))]) hx hb hKT hw 0 0 rfl rfl (by decide) (by decide) (by rw [tw_tn_s 21 243 rfl]; rfl) dX0_anyBytes_147 (fun H locs hw => ?_)
  refine lv_dup hx hb dX0_anyBytes_148 rfl ?_
  refine lv_bipush (v := nI 22) hx hb dX0_anyBytes_149 (by decide +kernel) ?_
  refine lv_sipush (v := nI 244) hx hb dX0_anyBytes_151 (by decide +kernel) ?_
  refine tw_iast (X1 := [(ta, .inl (dT, 32, .inl (tw_tn 23)))]) hx hb hKT hw 0 0 rfl rfl (by decide) (by decide) (by rw [tw_tn_s 22 244 rfl]; rfl) dX0_anyBytes_154 (fun H locs hw => ?_)
  refine lv_dup hx hb dX0_anyBytes_155 rfl ?_
  refine lv_bipush (v := nI 23) hx hb dX0_anyBytes_156 (by decide +kernel) ?_
  refine lv_sipush (v := nI 245) hx hb dX0_anyBytes_158 (by decide +kernel) ?_
  refine tw_iast (X1 := [(ta, .inl (dT, 32, .inl (tw_tn 24)))]) hx hb hKT hw 0 0 rfl rfl (by decide) (by decide) (by rw [tw_tn_s 23 245 rfl]; rfl) dX0_anyBytes_161 (fun H locs hw => ?_)
  refine lv_dup hx hb dX0_anyBytes_162 rfl ?_
  refine lv_bipush (v := nI 24) hx hb dX0_anyBytes_163 (by decide +kernel) ?_
  refine lv_sipush (v := nI 247) hx hb dX0_anyBytes_165 (by decide +kernel) ?_
  refine tw_iast (X1 := [(ta, .inl (dT, 32, .inl (tw_tn 25)))]) hx hb hKT hw 0 0 rfl rfl (by decide) (by decide) (by rw [tw_tn_s 24 247 rfl]; rfl) dX0_anyBytes_168 (fun H locs hw => ?_)
  refine lv_dup hx hb dX0_anyBytes_169 rfl ?_
  refine lv_bipush (v := nI 25) hx hb dX0_anyBytes_170 (by decide +kernel) ?_
  refine lv_sipush (v := nI 248) hx hb dX0_anyBytes_172 (by decide +kernel) ?_
  refine tw_iast (X1 := [(ta, .inl (dT, 32, .inl (tw_tn 26)))]) hx hb hKT hw 0 0 rfl rfl (by decide) (by decide) (by rw [tw_tn_s 25 248 rfl]; rfl) dX0_anyBytes_175 (fun H locs hw => ?_)
  refine lv_dup hx hb dX0_anyBytes_176 rfl ?_
  refine lv_bipush (v := nI 26) hx hb dX0_anyBytes_177 (by decide +kernel) ?_
  refine lv_sipush (v := nI 255) hx hb dX0_anyBytes_179 (by decide +kernel) ?_
  refine tw_iast (X1 := [(ta, .inl (dT, 32, .inl (tw_tn 27)))]) hx hb hKT hw 0 0 rfl rfl (by decide) (by decide) (by rw [tw_tn_s 26 255 rfl]; rfl) dX0_anyBytes_182 (fun H locs hw => ?_)
  refine lv_dup hx hb dX0_anyBytes_183 rfl ?_
  refine lv_bipush (v := nI 27) hx hb dX0_anyBytes_184 (by decide +kernel) ?_
  refine lv_sipush (v := nI 128) hx hb dX0_anyBytes_186 (by decide +kernel) ?_
  refine tw_iast (X1 := [(ta, .inl (dT, 32, .inl (tw_tn 28)))]) hx hb hKT hw 0 0 rfl rfl (by decide) (by decide) (by rw [tw_tn_s 27 128 rfl]; rfl) dX0_anyBytes_189 (fun H locs hw => ?_)
  refine lv_dup hx hb dX0_anyBytes_190 rfl ?_
  refine lv_bipush (v := nI 28) hx hb dX0_anyBytes_191 (by decide +kernel) ?_
  refine lv_sipush (v := nI 160) hx hb dX0_anyBytes_193 (by decide +kernel) ?_
  refine tw_iast (X1 := [(ta, .inl (dT, 32, .inl (tw_tn 29)))]) hx hb hKT hw 0 0 rfl rfl (by decide) (by decide) (by rw [tw_tn_s 28 160 rfl]; rfl) dX0_anyBytes_196 (fun H locs hw => ?_)
  refine lv_dup hx hb dX0_anyBytes_197 rfl ?_
  refine lv_bipush (v := nI 29) hx hb dX0_anyBytes_198 (by decide +kernel) ?_
  refine lv_sipush (v := nI 191) hx hb dX0_anyBytes_200 (by decide +kernel) ?_
  refine tw_iast (X1 := [(ta, .inl (dT, 32, .inl (tw_tn 30)))]) hx hb hKT hw 0 0 rfl rfl (by decide) (by decide) (by rw [tw_tn_s 29 191 rfl]; rfl) dX0_anyBytes_203 (fun H locs hw => ?_)
  refine lv_dup hx hb dX0_anyBytes_204 rfl ?_
  refine lv_bipush (v := nI 30) hx hb dX0_anyBytes_205 (by decide +kernel) ?_
  refine lv_sipush (v := nI 144) hx hb dX0_anyBytes_207 (by decide +kernel) ?_
  refine tw_iast (X1 := [(ta, .inl (dT, 32, .inl (tw_tn 31)))]) hx hb hKT hw 0 0 rfl rfl (by decide) (by decide) (by rw [tw_tn_s 30 144 rfl]; rfl) dX0_anyBytes_210 (fun H locs hw => ?_)
  refine lv_dup hx hb dX0_anyBytes_211 rfl ?_
  refine lv_bipush (v := nI 31) hx hb dX0_anyBytes_212 (by decide +kernel) ?_
  refine lv_sipush (v := nI 159) hx hb dX0_anyBytes_214 (by decide +kernel) ?_
  refine tw_iast (X1 := [(ta, .inl (dT, 32, .inl (tw_tn 32)))]) hx hb hKT hw 0 0 rfl rfl (by decide) (by decide) (by rw [tw_tn_s 31 159 rfl]; rfl) dX0_anyBytes_217 (fun H locs hw => ?_)
  refine lv_astore_n (lv' := [(1, .ref ta), (0, .ref b0)]) hx hb dX0_anyBytes_218 rfl hl (by decide) rfl (fun ls hl => ?_)
  refine lv_bipush (v := nI 40) hx hb dX0_anyBytes_219 (by decide +kernel) ?_
  refine c_newi (X := [(ta, .inl (dT, 32, .inl (tw_tn 32)))]) (fun _ => nI 0) (fun j => rfl) hC ⟨by omega, by omega⟩ (by decide) hK0 hw dX0_anyBytes_221 (fun wa dN H hKN hw => ?_)
  refine lv_astore_n (lv' := [(2, .ref wa), (1, .ref ta), (0, .ref b0)]) hx hb dX0_anyBytes_223 rfl hl (by decide) rfl (fun ls hl => ?_)
  refine lv_bipush (v := nI 80) hx hb dX0_anyBytes_224 (by decide +kernel) ?_
  refine c_newi (X := [(ta, .inl (dT, 32, .inl (tw_tn 32))), (wa, .inl (dN, 40, .inl (fun _ => nI 0)))]) (fun _ => nI 0) (fun j => rfl) hC ⟨by omega, by omega⟩ (by decide) hK0 hw dX0_anyBytes_226 (fun oa dO H hKO hw => ?_)
  have hw : tw_Wd dC dI A s (tw_X3 dT dN dO ta wa oa (fun _ => nI 0) (fun _ => nI 0)) H locs := hw
  refine lv_astore_n (lv' := [(3, .ref oa), (2, .ref wa), (1, .ref ta), (0, .ref b0)]) hx hb dX0_anyBytes_228 rfl hl (by decide) rfl (fun ls hl => ?_)
  refine c_mk (X := tw_X3 dT dN dO ta wa oa (fun _ => nI 0) (fun _ => nI 0)) hC ⟨by omega, by omega⟩ hK0 hw hl.1 (Nat.le_of_ble_eq_true rfl) dX0_anyBytes_229 dX0_anyBytes_232 dX0_anyBytes_233 (fun h t q dB dH H locs hK hw => ?_)
  have hw : tw_Wd dC dI A s (tw_X3 dT dN dO ta wa oa (fun _ => nI 0) (fun _ => nI 0) ++ tw_WL dB dH h t q (fun _ => 0) (fun _ => nI 0) 0 (nI 0)) H locs := hw
  refine W.widen (k := 6) (n := 2204) (Nat.le_of_ble_eq_true rfl) (Nat.le_of_ble_eq_true rfl) ?_
  refine lv_astore (lv' := [(4, .ref h), (3, .ref oa), (2, .ref wa), (1, .ref ta), (0, .ref b0)]) hx hb dX0_anyBytes_236 hl (by decide) rfl (fun ls hl => ?_)
  refine lv_iconst (v := nI 0) hx hb dX0_anyBytes_238 (by decide +kernel) ?_
  refine lv_istore (lv' := [(5, .int (nI 0)), (4, .ref h), (3, .ref oa), (2, .ref wa), (1, .ref ta), (0, .ref b0)]) hx hb dX0_anyBytes_239 hl (by decide) rfl (fun ls hl => ?_)
  have hl : lv_has ls 9 [(0, .ref b0), (1, .ref ta), (2, .ref wa), (3, .ref oa), (4, .ref h), (5, .int (nI 0))] := lv_sub hl [5, 4, 3, 2, 1, 0] rfl
  refine ab_A hC hcap hK hKT hKN hKO (fun b H locs ls hb0 hw hl => ?_) 40 0 (fun _ => 0) H locs ls (by omega) (fun _ => rfl) hw hl
  refine lv_iconst (v := nI 0) hx hb dX0_anyBytes_269 (by decide +kernel) ?_
  refine lv_istore (lv' := [(5, .int (nI 0)), (0, .ref b0), (1, .ref ta), (2, .ref wa), (3, .ref oa), (4, .ref h)]) hx hb dX0_anyBytes_270 hl (by decide) rfl (fun ls hl => ?_)
  have hl : lv_has ls 9 [(0, .ref b0), (1, .ref ta), (2, .ref wa), (3, .ref oa), (4, .ref h), (5, .int (nI 0))] := lv_sub hl [1, 2, 3, 4, 5, 0] rfl
  refine ab_B hC hcap hK hKT hKN hKO hX hbl hbA hL (fun b wf H locs ls hb6 hwf hw hl => ?_) 40 0 b (fun _ => nI 0) H locs ls (by omega) (fun j => by rw [hb0 j]; decide) (fun j _ => by rw [hb0 j]) hw hl
  refine lv_iconst (v := nI 0) hx hb dX0_anyBytes_331 (by decide +kernel) ?_
  refine lv_istore (lv' := [(5, .int (nI 0)), (0, .ref b0), (1, .ref ta), (2, .ref wa), (3, .ref oa), (4, .ref h)]) hx hb dX0_anyBytes_332 hl (by decide) rfl (fun ls hl => ?_)
  have hl : lv_has ls 9 [(0, .ref b0), (1, .ref ta), (2, .ref wa), (3, .ref oa), (4, .ref h), (5, .int (nI 0))] := lv_sub hl [1, 2, 3, 4, 5, 0] rfl
  exact ab_C hC hcap hK hKT hKN hKO hb6 hwf kR 41 0 _ _ _ H locs ls (by omega) hw hl
set_option maxHeartbeats 4000000 in
set_option maxRecDepth 100000 in
/-- anyBytes(s) answers true -/
theorem met_anyBytes (l : Launch) (dC : Nat → ClassId) (dI : Nat → Nat → Nat) (b0 L sz : Nat) (xs : Nat → Int32) (hL : L ≤ 40) : Met l yX0_anyBytes (ws_ yX0_anyBytes cX0_anyBytes 9 (some .boolean)) ({ frames := 3, cells := 6, slots := 2204, locals := 100 }) (va_Pc [.ref b0] (tw_PreL dC dI b0 L xs sz)) (tw_QL (fun q => sz ≤ q)) 6 2204 (fun q => sz ≤ q) := by
  refine Met.ofW (cc := cX0_anyBytes) (maxL := 9) (ret := some .boolean) (by decide) rfl ?_
  intro p e s m args below meth c s₁ B hml hv
  obtain ⟨rfl, hsz, hX, hbl, hK0, hT⟩ := hv
  have hr := B.returns
  have hlocks := B.notSynchronized
  have hx := B.exec
  have hb := B.bytes
  have hts := atoms_spec (ws := ws_ yX0_anyBytes cX0_anyBytes 9 (some .boolean)) B.pre
  have hts : ∀ w ∈ lw_all, w.before _ s = true := fun w h => hts w (List.mem_cons_of_mem _ h)
  have hown : s.vm.findClass RX0 = some m.cls := findClass_of_methodNamed B.named
  subst hsz
  have hbA : ¬ (fun q : Nat => s.heap.size ≤ q) b0 := fun h9 => absurd hbl (Nat.not_lt.mpr h9)
  have hA : ∀ q : Nat, s.heap.size ≤ q → (fun q : Nat => s.heap.size ≤ q) q := fun q h9 => h9
  generalize (fun q : Nat => s.heap.size ≤ q) = A at hT hbA hA ⊢
  have hl := lv_entry ([.ref b0]) (n := 9) (Nat.le_of_ble_eq_true rfl)
  rw [lg_entry_eq]
  generalize (lg_sl ([.ref b0]) ++ List.replicate (9 - (lg_sl ([.ref b0])).length) Slot.unset).toArray = ls at hl ⊢
  have hl : lv_has ls 9 [(0, .ref b0)] := hl
  refine ab_body (tw_C_of hx hb hml hown hts (Nat.le_of_ble_eq_true rfl) (Nat.le_of_ble_eq_true rfl) hT hA) ⟨Nat.le_of_ble_eq_true rfl, Nat.le_of_ble_eq_true rfl⟩ hX hbl hbA hL hK0 (fun X pc ls H locs d hw => ?_) ls hl
  exact W.zret (v := nI 1) hx hb hr rfl (fun T ht _ => ⟨⟨nI 1, (), rfl, rfl, trivial⟩, hw.2.2.F ht⟩) hw.2.2.2.2 d
end
section
/-! the law: noLetters -/
set_option maxRecDepth 100000
def tw_ln (l : List Nat) (k : Nat) : Nat → Int32 := fun j => if j < k then nI (l.getD j 0) else nI 0
theorem tw_ln_s (l : List Nat) (k v : Nat) (h : l.getD k 0 = v) : upd (tw_ln l k) k (nI v) = tw_ln l (k + 1) := by
  funext j
  show (if j = k then nI v else if j < k then nI (l.getD j 0) else nI 0) = if j < k + 1 then nI (l.getD j 0) else nI 0
  by_cases c : j = k
  · subst c
    rw [if_pos rfl, if_pos (by omega), h]
  · rw [if_neg c]
    by_cases c2 : j < k
    · rw [if_pos c2, if_pos (by omega)]
    · rw [if_neg c2, if_neg (by omega)]
/-- the seven numbers that are no letters -/
abbrev tw_none (c0 c1 : Int32) : List Nat := [55296, 57343, 56320, 1114112, 2097151, 55296 + c0.toBitVec.toNat % 2048, 1114112 + c1.toBitVec.toNat % 2147483648 % 983040]
theorem tw_none_ok (c0 c1 : Int32) {k : Nat} (hk : k < 7) : ¬ tw_sc ((tw_none c0 c1).getD k 0) ∧ (tw_none c0 c1).getD k 0 < 2097152 := by
  have h0 := Nat.mod_lt c0.toBitVec.toNat (show 0 < 2048 by decide)
  have h1 := Nat.mod_lt (c1.toBitVec.toNat % 2147483648) (show 0 < 983040 by decide)
  unfold tw_sc
  rcases (show k = 0 ∨ k = 1 ∨ k = 2 ∨ k = 3 ∨ k = 4 ∨ k = 5 ∨ k = 6 by omega) with rfl | rfl | rfl | rfl | rfl | rfl | rfl
  · show ¬ (55296 < 55296 ∨ (57344 ≤ 55296 ∧ 55296 < 1114112)) ∧ 55296 < 2097152; omega
  · show ¬ (57343 < 55296 ∨ (57344 ≤ 57343 ∧ 57343 < 1114112)) ∧ 57343 < 2097152; omega
  · show ¬ (56320 < 55296 ∨ (57344 ≤ 56320 ∧ 56320 < 1114112)) ∧ 56320 < 2097152; omega
  · show ¬ (1114112 < 55296 ∨ (57344 ≤ 1114112 ∧ 1114112 < 1114112)) ∧ 1114112 < 2097152; omega
  · show ¬ (2097151 < 55296 ∨ (57344 ≤ 2097151 ∧ 2097151 < 1114112)) ∧ 2097151 < 2097152; omega
  · show ¬ (55296 + c0.toBitVec.toNat % 2048 < 55296 ∨ (57344 ≤ 55296 + c0.toBitVec.toNat % 2048 ∧ 55296 + c0.toBitVec.toNat % 2048 < 1114112)) ∧ 55296 + c0.toBitVec.toNat % 2048 < 2097152; omega
  · show ¬ (1114112 + c1.toBitVec.toNat % 2147483648 % 983040 < 55296 ∨ (57344 ≤ 1114112 + c1.toBitVec.toNat % 2147483648 % 983040 ∧ 1114112 + c1.toBitVec.toNat % 2147483648 % 983040 < 1114112)) ∧ 1114112 + c1.toBitVec.toNat % 2147483648 % 983040 < 2097152; omega
abbrev tw_some : List Nat := [128, 2047, 2048, 55295, 57344, 65535, 65536, 1114111]
theorem tw_some_ok {k : Nat} (hk : k < 8) : tw_sc (tw_some.getD k 0) ∧ 128 ≤ tw_some.getD k 0 ∧ tw_some.getD k 0 < 1114112 := by
  have key : ∀ k, k < 8 → (tw_some.getD k 0 < 55296 ∨ (57344 ≤ tw_some.getD k 0 ∧ tw_some.getD k 0 < 1114112)) ∧ 128 ≤ tw_some.getD k 0 ∧ tw_some.getD k 0 < 1114112 := by decide +kernel
  exact key k hk
theorem tw_num_or {v : Nat} (h : v < 2097152) : tw_num (nI v ||| (-2097152)) = v := by
  have hneg : ∀ j, j < 21 → (-2097152 : Int32).toBitVec.getLsbD j = false := by decide +kernel
  unfold tw_num
  apply Nat.eq_of_testBit_eq
  intro i
  rw [show (2097152 : Nat) = 2 ^ 21 by decide, Nat.testBit_mod_two_pow]
  by_cases hi : i < 21
  · have e : (nI v ||| (-2097152)).toBitVec.toNat.testBit i = v.testBit i := by
      show (nI v ||| (-2097152)).toBitVec.getLsbD i = v.testBit i
      rw [Int32.toBitVec_or, BitVec.getLsbD_or, hneg i hi, Bool.or_false]
      show (nI v).toBitVec.toNat.testBit i = v.testBit i
      rw [pk_tn (by omega)]
    rw [e]
    simp [hi]
  · have e : v.testBit i = false := Nat.testBit_lt_two_pow (Nat.lt_of_lt_of_le h (show 2 ^ 21 ≤ 2 ^ i from Nat.pow_le_pow_right (by decide) (by omega)))
    rw [e]
    simp [hi]
/-- one letter laid in an empty text -/
theorem tw_at_one (v : Nat) : tw_at (tw_put (fun _ => 0) 0 (tw_utf v)) 0 (tw_utf v) := tw_at_put (b := fun _ => 0) (l := []) (l2 := tw_utf v) (tw_at_nil _ _)
theorem tw_put0_256 {v : Nat} (h : v < 2097152) : ∀ j, tw_put (fun _ => 0) 0 (tw_utf v) j < 256 := tw_put_256 _ _ _ (fun _ => (by decide : 0 < 256)) (tw_utf_256 h)
theorem tw_dec_one {b : Nat → Nat} {v e : Nat} (hs : tw_sc v) (hat : tw_at b 0 (tw_utf v)) (he : (tw_utf v).length = e) : tw_dec b 0 e = some (tw_enc v) := by
  have h := tw_dec_utf (b := b) (i := 0) (e := e) [v] (fun w hw => by rw [List.mem_singleton.mp hw]; exact hs) (by simpa using hat) (by simpa using he)
  simpa using h
theorem tw_dec_not {b : Nat → Nat} {v e : Nat} (hs : ¬ tw_sc v) (hv : v < 2097152) (hat : tw_at b 0 (tw_utf v)) (he : 0 < e) : tw_dec b 0 e = none := tw_dec_none he (tw_step_not hs hv hat)
theorem tw_dec_cut {b : Nat → Nat} {v e : Nat} (h1 : 128 ≤ v) (hv : v < 1114112) (hat : tw_at b 0 (tw_utf v)) (h0 : 0 < e) (he : e < (tw_utf v).length) : tw_dec b 0 e = none := by
  refine tw_dec_none h0 (tw_step_cut h1 hv ?_ (by omega))
  have := hat 0 (by omega)
  exact this
/-- the letters that fill the store -/
def tw_fl (k : Nat) : Nat := if k < 255 then 65536 + k else 1114111
theorem tw_fl_ge (k : Nat) : 65536 ≤ tw_fl k ∧ tw_fl k < 1114112 := by unfold tw_fl; split <;> omega
theorem tw_fl_sc (k : Nat) : tw_sc (tw_fl k) := Or.inr (by have := tw_fl_ge k; omega)
theorem tw_fl_T (k : Nat) : (tw_Ts tw_fl 0 k).length = 4 * k := by
  induction k with
  | zero => rfl
  | succ k ih =>
    have := tw_fl_ge k
    rw [tw_Ts_s0, List.length_append, ih, tw_utf_len, if_neg (by omega), if_neg (by omega), if_neg (by omega)]
    omega
theorem tw_fl_U (k : Nat) : (tw_Us tw_fl 0 k).length = 2 * k := by
  induction k with
  | zero => rfl
  | succ k ih =>
    have := tw_fl_ge k
    rw [tw_Us_s0, List.length_append, ih, tw_enc_len, if_neg (by omega)]
    omega
section TO
variable {p : Program} {l : Launch} {e : Env} {R : Room} {s : State} {m : MethodId} {args : Array Value} {below : List Frame} {meth : Method} {c : Code} {H : Heap} {locs : List Loc} {cells slots : Nat} {Q : State → Prop} {cc : ByteArray} {pc : Nat} {ls : Array Slot} {rest : List Value}
theorem n_if_eq0 {off : Int} {tgt : Nat} (hx : p.tables.exec = Jvm.exec) (hb : c.code = cc) (d : decode cc pc = .ok (.ifCond .eq off, 3)) (ht : (pc : Int) + off = (tgt : Int)) (kt : W p l e R s m args below meth c H locs cells slots Q (F0 m tgt ls rest)) : W p l e R s m args below meth c H locs cells slots Q (F0 m pc ls (.int (nI 0) :: rest)) :=
  lv_if_eq hx hb d ht (fun _ => kt) (fun q => absurd (by decide) q)
theorem n_if_ne0 {off : Int} {tgt : Nat} (hx : p.tables.exec = Jvm.exec) (hb : c.code = cc) (d : decode cc pc = .ok (.ifCond .ne off, 3)) (ht : (pc : Int) + off = (tgt : Int)) (kf : W p l e R s m args below meth c H locs cells slots Q (F0 m (pc + 3) ls rest)) : W p l e R s m args below meth c H locs cells slots Q (F0 m pc ls (.int (nI 0) :: rest)) :=
  lv_if_ne hx hb d ht (fun q => absurd (by decide) q) (fun _ => kf)
end TO
set_option maxHeartbeats 8000000 in
/-- the first loop: what is no letter is refused -/
theorem no_F {p : Program} {l : Launch} {e : Env} {R : Room} {s : State} {m : MethodId} {args : Array Value} {below : List Frame} {meth : Method} {c : Code} {Q : State → Prop} {dC : Nat → ClassId} {dI : Nat → Nat → Nat} {A : Nat → Prop} {b0 : Nat} {c0 c1 : Int32} {dT : ClassId} {ta : Nat}
  (hC : tw_C p c s m args R A cX0_noLetters 9) (hroom : 50 ≤ R.cells ∧ 32847 ≤ R.slots) (hK0 : va_K (dC, dI) vwCl [] s) (hKT : va_K (dC, dI) vwCl [(dT, .int)] s)
  (kS : ∀ (H : Heap) (locs : List Loc) (ls : Array Slot), tw_Wd dC dI A s ([(ta, .inl (dT, 7, .inl (tw_ln (tw_none c0 c1) 7)))]) H locs → lv_has ls 9 [(0, .ref b0)] → W p l e R s m args below meth c H locs 22 14371 Q (F0 m 167 ls [])) :
    ∀ (k i cells slots : Nat) (H : Heap) (locs : List Loc) (ls : Array Slot), i + k = 7 → cells + 3 * k ≤ 22 → slots + 2052 * k ≤ 14371 → tw_Wd dC dI A s ([(ta, .inl (dT, 7, .inl (tw_ln (tw_none c0 c1) 7)))]) H locs → lv_has ls 9 [(0, .ref b0), (2, .ref ta), (3, .int (nI 7)), (4, .int (nI i))] → W p l e R s m args below meth c H locs cells slots Q (F0 m 71 ls []) := by
  have hx := hC.1.1
  have hb := hC.1.2.1
  have hown := hC.1.2.2.2.1
  have hts := hC.1.2.2.2.2
  intro k
  induction k with
  | zero =>
    intro i cells slots H locs ls hik hc9 hs9 hw hl
    refine lv_iload hx hb dX0_noLetters_71 (lv_at hl 3 rfl) ?_
    refine lv_iload_n hx hb dX0_noLetters_73 rfl (lv_at hl 2 rfl) ?_
    refine n_icmp_ge (tgt := 167) hx hb dX0_noLetters_74 (by decide) (by omega) (by omega) (fun _ => ?_) (fun c9 => absurd c9 (by omega))
    refine W.widen (k := 22) (n := 14371) (by omega) (by omega) ?_
    have hl : lv_has ls 9 [(0, .ref b0)] := lv_sub hl [0] rfl
    exact kS H locs ls hw hl
  | succ k ih =>
    intro i cells slots H locs ls hik hc9 hs9 hw hl
    have hcap : cells + 3 ≤ R.cells ∧ slots + 2052 ≤ R.slots := by omega
    obtain ⟨hns, hv⟩ := tw_none_ok c0 c1 (k := i) (by omega)
    refine lv_iload hx hb dX0_noLetters_71 (lv_at hl 3 rfl) ?_
    refine lv_iload_n hx hb dX0_noLetters_73 rfl (lv_at hl 2 rfl) ?_
    refine n_icmp_ge (tgt := 167) hx hb dX0_noLetters_74 (by decide) (by omega) (by omega) (fun c9 => absurd c9 (by omega)) (fun _ => ?_)
    refine lv_aload_n hx hb dX0_noLetters_77 rfl (lv_at hl 1 rfl) ?_
    refine lv_iload hx hb dX0_noLetters_78 (lv_at hl 3 rfl) ?_
    refine tw_iald hx hb hKT hw 0 0 rfl rfl (by omega) (by decide) dX0_noLetters_80 ?_
    refine n_top (y := (nI ((tw_none c0 c1).getD i 0))) (if_pos (by omega)) ?_
    generalize (tw_none c0 c1).getD i 0 = v at hns hv ⊢
    have hul := tw_utf_len v
    have hsc := hns
    unfold tw_sc at hsc
    refine lv_istore (lv' := [(5, .int (nI v)), (0, .ref b0), (2, .ref ta), (3, .int (nI 7)), (4, .int (nI i))]) hx hb dX0_noLetters_81 hl (by decide) rfl (fun ls hl => ?_)
    refine c_mk (X := [(ta, .inl (dT, 7, .inl (tw_ln (tw_none c0 c1) 7)))]) hC ⟨by omega, by omega⟩ hK0 hw hl.1 (Nat.le_of_ble_eq_true rfl) dX0_noLetters_83 dX0_noLetters_86 dX0_noLetters_87 (fun h t q dB dH H locs hK hw => ?_)
    have hw : tw_Wd dC dI A s ([(ta, .inl (dT, 7, .inl (tw_ln (tw_none c0 c1) 7)))] ++ tw_WL dB dH h t q (fun _ => 0) (fun _ => nI 0) 0 (nI 0)) H locs := hw
    refine lv_astore (lv' := [(6, .ref h), (5, .int (nI v)), (0, .ref b0), (2, .ref ta), (3, .int (nI 7)), (4, .int (nI i))]) hx hb dX0_noLetters_90 hl (by decide) rfl (fun ls hl => ?_)
    refine lv_aload hx hb dX0_noLetters_92 (lv_at hl 0 rfl) ?_
    refine lv_iconst (v := nI 0) hx hb dX0_noLetters_94 (by decide +kernel) ?_
    refine c_letter (X := [(ta, .inl (dT, 7, .inl (tw_ln (tw_none c0 c1) 7)))]) hC hcap (by omega) (Or.inr ⟨0, by omega, rfl⟩) hK hw hl.1 (Nat.le_of_ble_eq_true rfl) dX0_noLetters_95 (fun H locs hw => ?_)
    have hw : tw_Wd dC dI A s ([(ta, .inl (dT, 7, .inl (tw_ln (tw_none c0 c1) 7)))] ++ tw_WL dB dH h t q (fun _ => 0) (fun _ => nI 0) 0 (nI 0)) H locs := hw
    refine n_top (y := (-1)) (if_pos (by decide)) ?_
    refine lv_iconst (v := -1) hx hb dX0_noLetters_98 (by decide +kernel) ?_
    refine n_neF (tgt := 159) hx hb dX0_noLetters_99 (by decide) rfl ?_
    have hb6 : ∀ j : Nat, (fun _ : Nat => 0) j < 256 := fun _ => (by decide : 0 < 256)
    refine lv_aload hx hb dX0_noLetters_102 (lv_at hl 0 rfl) ?_
    refine lv_iconst (v := nI 0) hx hb dX0_noLetters_104 (by decide +kernel) ?_
    refine lv_iconst (v := nI 0) hx hb dX0_noLetters_105 (by decide +kernel) ?_
    refine c_read (X := [(ta, .inl (dT, 7, .inl (tw_ln (tw_none c0 c1) 7)))]) hC hcap hb6 (by omega) (by omega) hK hw hl.1 (Nat.le_of_ble_eq_true rfl) dX0_noLetters_106 (fun r g1 H locs ho hw => ?_)
    have hw : tw_Wd dC dI A s ([(ta, .inl (dT, 7, .inl (tw_ln (tw_none c0 c1) 7)))] ++ tw_WL dB dH h t q (fun _ => 0) g1 0 r) H locs := hw
    rw [tw_dec_end (Nat.le_refl _)] at ho
    obtain ⟨rfl, -⟩ : r = nI 0 ∧ _ := ho
    refine n_if_ne0 (tgt := 159) hx hb dX0_noLetters_109 (by decide) ?_
    refine lv_aload hx hb dX0_noLetters_112 (lv_at hl 0 rfl) ?_
    refine lv_iload hx hb dX0_noLetters_114 (lv_at hl 1 rfl) ?_
    refine c_lay (X := [(ta, .inl (dT, 7, .inl (tw_ln (tw_none c0 c1) 7)))]) hC hcap (by omega) hK hw hl.1 (Nat.le_of_ble_eq_true rfl) dX0_noLetters_116 (fun H locs hw => ?_)
    have hw : tw_Wd dC dI A s ([(ta, .inl (dT, 7, .inl (tw_ln (tw_none c0 c1) 7)))] ++ tw_WL dB dH h t q (tw_layB (fun _ => 0) 0 (nI v)) g1 (tw_layN 0 (nI v)) (nI 0)) H locs := hw
    have hp : tw_num (nI v) = v := tw_num_nI hv
    have e1 : tw_layB (fun _ => 0) 0 (nI v) = tw_put (fun _ => 0) 0 (tw_utf v) := by unfold tw_layB; rw [if_pos (by omega), hp]
    have e2 : tw_layN 0 (nI v) = (tw_utf v).length := by unfold tw_layN; rw [if_pos (by omega), hp, Nat.zero_add]
    have e3 : tw_layR 0 (nI v) = nI (tw_utf v).length := by unfold tw_layR; rw [if_pos (by omega), e2]
    rw [e1, e2] at hw
    refine n_top (y := (nI ((tw_utf v).length))) e3 ?_
    have hat := tw_at_one v
    have hb6 := tw_put0_256 hv
    have hlu : 1 ≤ (tw_utf v).length ∧ (tw_utf v).length ≤ 4 := by rw [hul]; split <;> (try split) <;> (try split) <;> omega
    have kJ : W p l e R s m args below meth c H locs (cells + 3) (slots + 2052) Q (F0 m 131 ls [.int (nI ((tw_utf v).length)), .int (nI ((tw_utf v).length))]) := by
      refine n_neF (tgt := 159) hx hb dX0_noLetters_131 (by decide) rfl ?_
      refine lv_aload hx hb dX0_noLetters_134 (lv_at hl 0 rfl) ?_
      refine lv_iconst (v := nI 0) hx hb dX0_noLetters_136 (by decide +kernel) ?_
      refine lv_aload hx hb dX0_noLetters_137 (lv_at hl 0 rfl) ?_
      refine c_size (X := [(ta, .inl (dT, 7, .inl (tw_ln (tw_none c0 c1) 7)))]) hC hcap hK hw hl.1 (Nat.le_of_ble_eq_true rfl) dX0_noLetters_139 (fun H locs hw => ?_)
      have hw : tw_Wd dC dI A s ([(ta, .inl (dT, 7, .inl (tw_ln (tw_none c0 c1) 7)))] ++ tw_WL dB dH h t q (tw_put (fun _ => 0) 0 (tw_utf v)) g1 ((tw_utf v).length) (nI 0)) H locs := hw
      refine c_read (X := [(ta, .inl (dT, 7, .inl (tw_ln (tw_none c0 c1) 7)))]) hC hcap hb6 (by omega) (by omega) hK hw hl.1 (Nat.le_of_ble_eq_true rfl) dX0_noLetters_142 (fun r g1 H locs ho hw => ?_)
      have hw : tw_Wd dC dI A s ([(ta, .inl (dT, 7, .inl (tw_ln (tw_none c0 c1) 7)))] ++ tw_WL dB dH h t q (tw_put (fun _ => 0) 0 (tw_utf v)) g1 ((tw_utf v).length) r) H locs := hw
      rw [tw_dec_not hns hv hat (by omega)] at ho
      obtain rfl : r = -1 := ho
      refine lv_iconst (v := -1) hx hb dX0_noLetters_145 (by decide +kernel) ?_
      refine n_neF (tgt := 159) hx hb dX0_noLetters_146 (by decide) rfl ?_
      refine lv_aload hx hb dX0_noLetters_149 (lv_at hl 0 rfl) ?_
      refine lv_iconst (v := nI 0) hx hb dX0_noLetters_151 (by decide +kernel) ?_
      refine c_letter (X := [(ta, .inl (dT, 7, .inl (tw_ln (tw_none c0 c1) 7)))]) hC hcap (by omega) (Or.inl rfl) hK hw hl.1 (Nat.le_of_ble_eq_true rfl) dX0_noLetters_152 (fun H locs hw => ?_)
      have hw : tw_Wd dC dI A s ([(ta, .inl (dT, 7, .inl (tw_ln (tw_none c0 c1) 7)))] ++ tw_WL dB dH h t q (tw_put (fun _ => 0) 0 (tw_utf v)) g1 ((tw_utf v).length) (-1)) H locs := hw
      refine n_top (y := (-1)) (if_pos (by decide)) ?_
      refine lv_iconst (v := -1) hx hb dX0_noLetters_155 (by decide +kernel) ?_
      refine n_eqT (tgt := 161) hx hb dX0_noLetters_156 (by decide) rfl ?_
      refine lv_iinc (lv' := [(4, .int (nI (i + 1))), (6, .ref h), (5, .int (nI v)), (0, .ref b0), (2, .ref ta), (3, .int (nI 7))]) (k := 5) hx hb dX0_noLetters_161 hl rfl (n_inc1 rfl) (by decide) rfl (fun ls hl => ?_)
      refine lv_goto (tgt := 71) hx hb dX0_noLetters_164 (by decide) ?_
      have hl : lv_has ls 9 [(0, .ref b0), (2, .ref ta), (3, .int (nI 7)), (4, .int (nI (i + 1)))] := lv_sub hl [3, 4, 5, 0] rfl
      exact ih (i + 1) (cells + 3) (slots + 2052) H locs ls (by omega) (by omega) (by omega) (hw.sub [0] (by decide) rfl rfl) hl
    refine lv_iload hx hb dX0_noLetters_119 (lv_at hl 1 rfl) ?_
    refine lv_ldc (v := 65536) hx hb hown (hts _ q47) dX0_noLetters_121 ?_
    refine n_top (y := (nI 65536)) (by decide +kernel) ?_
    refine n_icmp_ge (tgt := 130) hx hb dX0_noLetters_123 (by decide) (by omega) (by omega) (fun c8 => ?_) (fun c8 => ?_)
    · skip
      refine lv_iconst (v := nI 4) hx hb dX0_noLetters_130 (by decide +kernel) ?_
      exact n_top (y := (nI ((tw_utf v).length))) (congrArg nI (by rw [hul, if_neg (by omega), if_neg (by omega), if_neg (by omega)])) kJ
    · skip
      refine lv_iconst (v := nI 3) hx hb dX0_noLetters_126 (by decide +kernel) ?_
      refine lv_goto (tgt := 131) hx hb dX0_noLetters_127 (by decide) ?_
      exact n_top (y := (nI ((tw_utf v).length))) (congrArg nI (by rw [hul, if_neg (by omega), if_neg (by omega), if_pos (by omega)])) kJ
set_option maxHeartbeats 8000000 in
/-- the second loop: the least and greatest letters -/
theorem no_G {p : Program} {l : Launch} {e : Env} {R : Room} {s : State} {m : MethodId} {args : Array Value} {below : List Frame} {meth : Method} {c : Code} {Q : State → Prop} {dC : Nat → ClassId} {dI : Nat → Nat → Nat} {A : Nat → Prop} {b0 : Nat} {dT : ClassId} {ta : Nat}
  (hC : tw_C p c s m args R A cX0_noLetters 9) (hroom : 50 ≤ R.cells ∧ 32847 ≤ R.slots) (hK0 : va_K (dC, dI) vwCl [] s) (hKT : va_K (dC, dI) vwCl [(dT, .int)] s)
  (kS : ∀ (H : Heap) (locs : List Loc) (ls : Array Slot), tw_Wd dC dI A s ([(ta, .inl (dT, 8, .inl (tw_ln tw_some 8)))]) H locs → lv_has ls 9 [(0, .ref b0)] → W p l e R s m args below meth c H locs 47 30795 Q (F0 m 412 ls [])) :
    ∀ (k i cells slots : Nat) (H : Heap) (locs : List Loc) (ls : Array Slot), i + k = 8 → cells + 3 * k ≤ 47 → slots + 2052 * k ≤ 30795 → tw_Wd dC dI A s ([(ta, .inl (dT, 8, .inl (tw_ln tw_some 8)))]) H locs → lv_has ls 9 [(0, .ref b0), (3, .ref ta), (4, .int (nI 8)), (5, .int (nI i))] → W p l e R s m args below meth c H locs cells slots Q (F0 m 226 ls []) := by
  have hx := hC.1.1
  have hb := hC.1.2.1
  have hown := hC.1.2.2.2.1
  have hts := hC.1.2.2.2.2
  intro k
  induction k with
  | zero =>
    intro i cells slots H locs ls hik hc9 hs9 hw hl
    refine lv_iload hx hb dX0_noLetters_226 (lv_at hl 3 rfl) ?_
    refine lv_iload hx hb dX0_noLetters_228 (lv_at hl 2 rfl) ?_
    refine n_icmp_ge (tgt := 412) hx hb dX0_noLetters_230 (by decide) (by omega) (by omega) (fun _ => ?_) (fun c9 => absurd c9 (by omega))
    refine W.widen (k := 47) (n := 30795) (by omega) (by omega) ?_
    have hl : lv_has ls 9 [(0, .ref b0)] := lv_sub hl [0] rfl
    exact kS H locs ls hw hl
  | succ k ih =>
    intro i cells slots H locs ls hik hc9 hs9 hw hl
    have hcap : cells + 3 ≤ R.cells ∧ slots + 2052 ≤ R.slots := by omega
    obtain ⟨hsc, h128, hv⟩ := tw_some_ok (k := i) (by omega)
    refine lv_iload hx hb dX0_noLetters_226 (lv_at hl 3 rfl) ?_
    refine lv_iload hx hb dX0_noLetters_228 (lv_at hl 2 rfl) ?_
    refine n_icmp_ge (tgt := 412) hx hb dX0_noLetters_230 (by decide) (by omega) (by omega) (fun c9 => absurd c9 (by omega)) (fun _ => ?_)
    refine lv_aload_n hx hb dX0_noLetters_233 rfl (lv_at hl 1 rfl) ?_
    refine lv_iload hx hb dX0_noLetters_234 (lv_at hl 3 rfl) ?_
    refine tw_iald hx hb hKT hw 0 0 rfl rfl (by omega) (by decide) dX0_noLetters_236 ?_
    refine n_top (y := (nI (tw_some.getD i 0))) (if_pos (by omega)) ?_
    generalize tw_some.getD i 0 = v at hsc h128 hv ⊢
    have hul := tw_utf_len v
    have hel := tw_enc_len v
    refine lv_istore (lv' := [(6, .int (nI v)), (0, .ref b0), (3, .ref ta), (4, .int (nI 8)), (5, .int (nI i))]) hx hb dX0_noLetters_237 hl (by decide) rfl (fun ls hl => ?_)
    refine c_mk (X := [(ta, .inl (dT, 8, .inl (tw_ln tw_some 8)))]) hC ⟨by omega, by omega⟩ hK0 hw hl.1 (Nat.le_of_ble_eq_true rfl) dX0_noLetters_239 dX0_noLetters_242 dX0_noLetters_243 (fun h t q dB dH H locs hK hw => ?_)
    have hw : tw_Wd dC dI A s ([(ta, .inl (dT, 8, .inl (tw_ln tw_some 8)))] ++ tw_WL dB dH h t q (fun _ => 0) (fun _ => nI 0) 0 (nI 0)) H locs := hw
    refine lv_astore (lv' := [(7, .ref h), (6, .int (nI v)), (0, .ref b0), (3, .ref ta), (4, .int (nI 8)), (5, .int (nI i))]) hx hb dX0_noLetters_246 hl (by decide) rfl (fun ls hl => ?_)
    refine lv_aload hx hb dX0_noLetters_248 (lv_at hl 0 rfl) ?_
    refine lv_iload hx hb dX0_noLetters_250 (lv_at hl 1 rfl) ?_
    refine lv_ldc (v := -2097152) hx hb hown (hts _ q84) dX0_noLetters_252 ?_
    refine lv_ior hx hb dX0_noLetters_254 ?_
    refine c_lay (X := [(ta, .inl (dT, 8, .inl (tw_ln tw_some 8)))]) hC hcap (by omega) hK hw hl.1 (Nat.le_of_ble_eq_true rfl) dX0_noLetters_255 (fun H locs hw => ?_)
    have hw : tw_Wd dC dI A s ([(ta, .inl (dT, 8, .inl (tw_ln tw_some 8)))] ++ tw_WL dB dH h t q (tw_layB (fun _ => 0) 0 ((nI v ||| (-2097152)))) (fun _ => nI 0) (tw_layN 0 ((nI v ||| (-2097152)))) (nI 0)) H locs := hw
    have hp : tw_num ((nI v ||| (-2097152))) = v := tw_num_or (by omega)
    have e1 : tw_layB (fun _ => 0) 0 ((nI v ||| (-2097152))) = tw_put (fun _ => 0) 0 (tw_utf v) := by unfold tw_layB; rw [if_pos (by omega), hp]
    have e2 : tw_layN 0 ((nI v ||| (-2097152))) = (tw_utf v).length := by unfold tw_layN; rw [if_pos (by omega), hp, Nat.zero_add]
    have e3 : tw_layR 0 ((nI v ||| (-2097152))) = nI (tw_utf v).length := by unfold tw_layR; rw [if_pos (by omega), e2]
    rw [e1, e2] at hw
    refine n_top (y := (nI ((tw_utf v).length))) e3 ?_
    have hat := tw_at_one v
    have hb6 := tw_put0_256 (v := v) (by omega)
    have hlu : 2 ≤ (tw_utf v).length ∧ (tw_utf v).length ≤ 4 := by rw [hul, if_neg (by omega)]; split <;> (try split) <;> omega
    refine lv_istore (lv' := [(8, .int (nI ((tw_utf v).length))), (7, .ref h), (6, .int (nI v)), (0, .ref b0), (3, .ref ta), (4, .int (nI 8)), (5, .int (nI i))]) hx hb dX0_noLetters_258 hl (by decide) rfl (fun ls hl => ?_)
    refine lv_iload hx hb dX0_noLetters_260 (lv_at hl 0 rfl) ?_
    have kJ : W p l e R s m args below meth c H locs (cells + 3) (slots + 2052) Q (F0 m 286 ls [.int (nI ((tw_utf v).length)), .int (nI ((tw_utf v).length))]) := by
      refine n_neF (tgt := 354) hx hb dX0_noLetters_286 (by decide) rfl ?_
      refine lv_aload hx hb dX0_noLetters_289 (lv_at hl 1 rfl) ?_
      refine c_size (X := [(ta, .inl (dT, 8, .inl (tw_ln tw_some 8)))]) hC hcap hK hw hl.1 (Nat.le_of_ble_eq_true rfl) dX0_noLetters_291 (fun H locs hw => ?_)
      have hw : tw_Wd dC dI A s ([(ta, .inl (dT, 8, .inl (tw_ln tw_some 8)))] ++ tw_WL dB dH h t q (tw_put (fun _ => 0) 0 (tw_utf v)) (fun _ => nI 0) ((tw_utf v).length) (nI 0)) H locs := hw
      refine lv_iload hx hb dX0_noLetters_294 (lv_at hl 0 rfl) ?_
      refine n_neF (tgt := 354) hx hb dX0_noLetters_296 (by decide) rfl ?_
      refine lv_aload hx hb dX0_noLetters_299 (lv_at hl 1 rfl) ?_
      refine lv_iconst (v := nI 0) hx hb dX0_noLetters_301 (by decide +kernel) ?_
      refine lv_iload hx hb dX0_noLetters_302 (lv_at hl 0 rfl) ?_
      refine c_read (X := [(ta, .inl (dT, 8, .inl (tw_ln tw_some 8)))]) hC hcap hb6 (by omega) (by omega) hK hw hl.1 (Nat.le_of_ble_eq_true rfl) dX0_noLetters_304 (fun r g1 H locs ho hw => ?_)
      have hw : tw_Wd dC dI A s ([(ta, .inl (dT, 8, .inl (tw_ln tw_some 8)))] ++ tw_WL dB dH h t q (tw_put (fun _ => 0) 0 (tw_utf v)) g1 ((tw_utf v).length) r) H locs := hw
      rw [tw_dec_one hsc hat (Nat.zero_add _).symm] at ho
      have hr0 : r = nI (tw_enc v).length := ho.1
      have hrd := tw_out_rd ho (by rw [hel]; split <;> omega)
      refine n_top (y := (nI ((tw_enc v).length))) hr0 ?_
      have kK : W p l e R s m args below meth c H locs (cells + 3) (slots + 2052) Q (F0 m 319 ls [.int (nI ((tw_enc v).length)), .int (nI ((tw_enc v).length))]) := by
        refine n_neF (tgt := 354) hx hb dX0_noLetters_319 (by decide) rfl ?_
        refine lv_aload hx hb dX0_noLetters_322 (lv_at hl 1 rfl) ?_
        refine lv_iconst (v := nI 0) hx hb dX0_noLetters_324 (by decide +kernel) ?_
        refine c_letter (X := [(ta, .inl (dT, 8, .inl (tw_ln tw_some 8)))]) hC hcap (by omega) hrd hK hw hl.1 (Nat.le_of_ble_eq_true rfl) dX0_noLetters_325 (fun H locs hw => ?_)
        have hw : tw_Wd dC dI A s ([(ta, .inl (dT, 8, .inl (tw_ln tw_some 8)))] ++ tw_WL dB dH h t q (tw_put (fun _ => 0) 0 (tw_utf v)) g1 ((tw_utf v).length) r) H locs := hw
        refine n_top (y := (nI ((tw_enc v).getD 0 0))) (tw_let_at ho (by rw [hel]; split <;> omega) (by rw [hel]; split <;> omega)) ?_
        have kM : W p l e R s m args below meth c H locs (cells + 3) (slots + 2052) Q (F0 m 351 ls [.int (nI ((tw_enc v).getD 0 0)), .int (nI ((tw_enc v).getD 0 0))]) := by
          refine n_eqT (tgt := 356) hx hb dX0_noLetters_351 (by decide) rfl ?_
          refine lv_aload hx hb dX0_noLetters_356 (lv_at hl 1 rfl) ?_
          refine lv_iload hx hb dX0_noLetters_358 (lv_at hl 0 rfl) ?_
          refine lv_iconst (v := nI 1) hx hb dX0_noLetters_360 (by decide +kernel) ?_
          refine n_isub (r := (tw_utf v).length - 1) hx hb dX0_noLetters_361 (by omega) rfl ?_
          refine c_cut (X := [(ta, .inl (dT, 8, .inl (tw_ln tw_some 8)))]) hC hcap (by omega) (by omega) hK hw hl.1 (Nat.le_of_ble_eq_true rfl) dX0_noLetters_362 (fun H locs hw => ?_)
          rw [Nat.mod_eq_of_lt (show (tw_utf v).length - 1 < (tw_utf v).length + 1 by omega)] at hw
          have hw : tw_Wd dC dI A s ([(ta, .inl (dT, 8, .inl (tw_ln tw_some 8)))] ++ tw_WL dB dH h t q (tw_put (fun _ => 0) 0 (tw_utf v)) g1 ((tw_utf v).length - 1) r) H locs := hw
          refine lv_aload hx hb dX0_noLetters_365 (lv_at hl 1 rfl) ?_
          refine c_size (X := [(ta, .inl (dT, 8, .inl (tw_ln tw_some 8)))]) hC hcap hK hw hl.1 (Nat.le_of_ble_eq_true rfl) dX0_noLetters_367 (fun H locs hw => ?_)
          have hw : tw_Wd dC dI A s ([(ta, .inl (dT, 8, .inl (tw_ln tw_some 8)))] ++ tw_WL dB dH h t q (tw_put (fun _ => 0) 0 (tw_utf v)) g1 ((tw_utf v).length - 1) r) H locs := hw
          refine lv_iload hx hb dX0_noLetters_370 (lv_at hl 0 rfl) ?_
          refine lv_iconst (v := nI 1) hx hb dX0_noLetters_372 (by decide +kernel) ?_
          refine n_isub (r := (tw_utf v).length - 1) hx hb dX0_noLetters_373 (by omega) rfl ?_
          refine n_neF (tgt := 404) hx hb dX0_noLetters_374 (by decide) rfl ?_
          refine lv_aload hx hb dX0_noLetters_377 (lv_at hl 1 rfl) ?_
          refine lv_iconst (v := nI 0) hx hb dX0_noLetters_379 (by decide +kernel) ?_
          refine lv_iload hx hb dX0_noLetters_380 (lv_at hl 0 rfl) ?_
          refine lv_iconst (v := nI 1) hx hb dX0_noLetters_382 (by decide +kernel) ?_
          refine n_isub (r := (tw_utf v).length - 1) hx hb dX0_noLetters_383 (by omega) rfl ?_
          refine c_read (X := [(ta, .inl (dT, 8, .inl (tw_ln tw_some 8)))]) hC hcap hb6 (by omega) (by omega) hK hw hl.1 (Nat.le_of_ble_eq_true rfl) dX0_noLetters_384 (fun r2 g2 H locs ho2 hw => ?_)
          have hw : tw_Wd dC dI A s ([(ta, .inl (dT, 8, .inl (tw_ln tw_some 8)))] ++ tw_WL dB dH h t q (tw_put (fun _ => 0) 0 (tw_utf v)) g2 ((tw_utf v).length - 1) r2) H locs := hw
          rw [tw_dec_cut h128 hv hat (by omega) (by omega)] at ho2
          obtain rfl : r2 = -1 := ho2
          refine lv_iconst (v := -1) hx hb dX0_noLetters_387 (by decide +kernel) ?_
          refine n_neF (tgt := 404) hx hb dX0_noLetters_388 (by decide) rfl ?_
          refine lv_aload hx hb dX0_noLetters_391 (lv_at hl 1 rfl) ?_
          refine lv_iload hx hb dX0_noLetters_393 (lv_at hl 0 rfl) ?_
          refine lv_iconst (v := nI 1) hx hb dX0_noLetters_395 (by decide +kernel) ?_
          refine n_isub (r := (tw_utf v).length - 1) hx hb dX0_noLetters_396 (by omega) rfl ?_
          refine lv_iconst (v := nI 0) hx hb dX0_noLetters_397 (by decide +kernel) ?_
          refine c_read (X := [(ta, .inl (dT, 8, .inl (tw_ln tw_some 8)))]) hC hcap hb6 (by omega) (by omega) hK hw hl.1 (Nat.le_of_ble_eq_true rfl) dX0_noLetters_398 (fun r3 g3 H locs ho3 hw => ?_)
          have hw : tw_Wd dC dI A s ([(ta, .inl (dT, 8, .inl (tw_ln tw_some 8)))] ++ tw_WL dB dH h t q (tw_put (fun _ => 0) 0 (tw_utf v)) g3 ((tw_utf v).length - 1) r3) H locs := hw
          rw [tw_dec_end (i := (tw_utf v).length - 1) (e := (tw_utf v).length - 1 + 0) (Nat.le_refl _)] at ho3
          obtain ⟨rfl, -⟩ : r3 = nI 0 ∧ _ := ho3
          refine n_if_eq0 (tgt := 406) hx hb dX0_noLetters_401 (by decide) ?_
          refine lv_iinc (lv' := [(5, .int (nI (i + 1))), (8, .int (nI ((tw_utf v).length))), (7, .ref h), (6, .int (nI v)), (0, .ref b0), (3, .ref ta), (4, .int (nI 8))]) (k := 6) hx hb dX0_noLetters_406 hl rfl (n_inc1 rfl) (by decide) rfl (fun ls hl => ?_)
          refine lv_goto (tgt := 226) hx hb dX0_noLetters_409 (by decide) ?_
          have hl : lv_has ls 9 [(0, .ref b0), (3, .ref ta), (4, .int (nI 8)), (5, .int (nI (i + 1)))] := lv_sub hl [4, 5, 6, 0] rfl
          exact ih (i + 1) (cells + 3) (slots + 2052) H locs ls (by omega) (by omega) (by omega) (hw.sub [0] (by decide) rfl rfl) hl
        refine lv_iload hx hb dX0_noLetters_328 (lv_at hl 2 rfl) ?_
        refine lv_ldc (v := 65535) hx hb hown (hts _ q82) dX0_noLetters_330 ?_
        refine n_top (y := (nI 65535)) (by decide +kernel) ?_
        refine n_icmp_le (tgt := 349) hx hb dX0_noLetters_332 (by decide) (by omega) (by omega) (fun c8 => ?_) (fun c8 => ?_)
        · skip
          refine lv_iload hx hb dX0_noLetters_349 (lv_at hl 2 rfl) ?_
          exact n_top (y := (nI ((tw_enc v).getD 0 0))) (congrArg nI (tw_enc_0 (by omega)).symm) kM
        · skip
          refine lv_ldc (v := 55296) hx hb hown (hts _ q48) dX0_noLetters_335 ?_
          refine n_top (y := (nI 55296)) (by decide +kernel) ?_
          refine lv_iload hx hb dX0_noLetters_337 (lv_at hl 2 rfl) ?_
          refine lv_ldc (v := 65536) hx hb hown (hts _ q47) dX0_noLetters_339 ?_
          refine n_top (y := (nI 65536)) (by decide +kernel) ?_
          refine n_isub (r := v - 65536) hx hb dX0_noLetters_341 (by omega) rfl ?_
          refine lv_bipush (v := nI 10) hx hb dX0_noLetters_342 (by decide +kernel) ?_
          refine n_ishr (r := (v - 65536) / 1024) hx hb dX0_noLetters_344 (by omega) (by decide) rfl ?_
          refine n_iadd (r := 55296 + (v - 65536) / 1024) hx hb dX0_noLetters_345 rfl ?_
          refine lv_goto (tgt := 351) hx hb dX0_noLetters_346 (by decide) ?_
          exact n_top (y := (nI ((tw_enc v).getD 0 0))) (congrArg nI (tw_enc_1 (by omega)).1.symm) kM
      refine lv_iload hx hb dX0_noLetters_307 (lv_at hl 2 rfl) ?_
      refine lv_ldc (v := 65535) hx hb hown (hts _ q82) dX0_noLetters_309 ?_
      refine n_top (y := (nI 65535)) (by decide +kernel) ?_
      refine n_icmp_le (tgt := 318) hx hb dX0_noLetters_311 (by decide) (by omega) (by omega) (fun c8 => ?_) (fun c8 => ?_)
      · skip
        refine lv_iconst (v := nI 1) hx hb dX0_noLetters_318 (by decide +kernel) ?_
        exact n_top (y := (nI ((tw_enc v).length))) (congrArg nI (by rw [hel, if_pos (by omega)])) kK
      · skip
        refine lv_iconst (v := nI 2) hx hb dX0_noLetters_314 (by decide +kernel) ?_
        refine lv_goto (tgt := 319) hx hb dX0_noLetters_315 (by decide) ?_
        exact n_top (y := (nI ((tw_enc v).length))) (congrArg nI (by rw [hel, if_neg (by omega)])) kK
    refine lv_iload hx hb dX0_noLetters_262 (lv_at hl 2 rfl) ?_
    refine lv_sipush (v := nI 2048) hx hb dX0_noLetters_264 (by decide +kernel) ?_
    refine n_icmp_ge (tgt := 274) hx hb dX0_noLetters_267 (by decide) (by omega) (by omega) (fun c8 => ?_) (fun c8 => ?_)
    rotate_left
    · skip
      refine lv_iconst (v := nI 2) hx hb dX0_noLetters_270 (by decide +kernel) ?_
      refine lv_goto (tgt := 286) hx hb dX0_noLetters_271 (by decide) ?_
      exact n_top (y := (nI ((tw_utf v).length))) (congrArg nI (by rw [hul, if_neg (by omega), if_pos c8])) kJ
    refine lv_iload hx hb dX0_noLetters_274 (lv_at hl 2 rfl) ?_
    refine lv_ldc (v := 65536) hx hb hown (hts _ q47) dX0_noLetters_276 ?_
    refine n_top (y := (nI 65536)) (by decide +kernel) ?_
    refine n_icmp_ge (tgt := 285) hx hb dX0_noLetters_278 (by decide) (by omega) (by omega) (fun c7 => ?_) (fun c7 => ?_)
    rotate_left
    · skip
      refine lv_iconst (v := nI 3) hx hb dX0_noLetters_281 (by decide +kernel) ?_
      refine lv_goto (tgt := 286) hx hb dX0_noLetters_282 (by decide) ?_
      exact n_top (y := (nI ((tw_utf v).length))) (congrArg nI (by rw [hul, if_neg (by omega), if_neg (by omega), if_pos c7])) kJ
    refine lv_iconst (v := nI 4) hx hb dX0_noLetters_285 (by decide +kernel) ?_
    exact n_top (y := (nI ((tw_utf v).length))) (congrArg nI (by rw [hul, if_neg (by omega), if_neg (by omega), if_neg (by omega)])) kJ
set_option maxHeartbeats 4000000 in
/-- the third loop: 255 letters of four bytes -/
theorem no_H {p : Program} {l : Launch} {e : Env} {R : Room} {s : State} {m : MethodId} {args : Array Value} {below : List Frame} {meth : Method} {c : Code} {Q : State → Prop} {dC : Nat → ClassId} {dI : Nat → Nat → Nat} {A : Nat → Prop} {dB dH : ClassId} {h t q : Nat}
  (hC : tw_C p c s m args R A cX0_noLetters 9) (hroom : 50 ≤ R.cells ∧ 32847 ≤ R.slots) (hK0 : va_K (dC, dI) vwCl [] s) (hK : va_K (dC, dI) vwCl [(dB, .byte), (dH, .char)] s)
  (kS : ∀ (b : Nat → Nat) (H : Heap) (locs : List Loc) (ls : Array Slot), (∀ j, b j < 256) → tw_at b 0 (tw_Ts tw_fl 0 255) → tw_Wd dC dI A s (tw_WL dB dH h t q b (fun _ => nI 0) ((tw_Ts tw_fl 0 255).length) (nI 0)) H locs → lv_has ls 9 [(3, .ref h)] → W p l e R s m args below meth c H locs 50 32847 Q (F0 m 447 ls [])) :
    ∀ (k k0 : Nat) (b : Nat → Nat) (H : Heap) (locs : List Loc) (ls : Array Slot), k0 + k = 255 → (∀ j, b j < 256) → tw_at b 0 (tw_Ts tw_fl 0 k0) → tw_Wd dC dI A s (tw_WL dB dH h t q b (fun _ => nI 0) ((tw_Ts tw_fl 0 k0).length) (nI 0)) H locs → lv_has ls 9 [(3, .ref h), (4, .int (nI k0))] → W p l e R s m args below meth c H locs 50 32847 Q (F0 m 423 ls []) := by
  have hx := hC.1.1
  have hb := hC.1.2.1
  have hown := hC.1.2.2.2.1
  have hts := hC.1.2.2.2.2
  have hcap : 50 ≤ R.cells ∧ 32847 ≤ R.slots := hroom
  intro k
  induction k with
  | zero =>
    intro k0 b H locs ls hik hb6 hat hw hl
    obtain rfl : k0 = 255 := by omega
    refine lv_iload hx hb dX0_noLetters_423 (lv_at hl 1 rfl) ?_
    refine lv_sipush (v := nI 255) hx hb dX0_noLetters_425 (by decide +kernel) ?_
    refine n_icmp_ge (tgt := 447) hx hb dX0_noLetters_428 (by decide) (by omega) (by omega) (fun _ => ?_) (fun c9 => absurd c9 (by omega))
    have hl : lv_has ls 9 [(3, .ref h)] := lv_sub hl [0] rfl
    exact kS b H locs ls hb6 hat hw hl
  | succ k ih =>
    intro k0 b H locs ls hik hb6 hat hw hl
    have hTl := tw_fl_T k0
    have hfk : tw_fl k0 = 65536 + k0 := if_pos (by omega)
    refine lv_iload hx hb dX0_noLetters_423 (lv_at hl 1 rfl) ?_
    refine lv_sipush (v := nI 255) hx hb dX0_noLetters_425 (by decide +kernel) ?_
    refine n_icmp_ge (tgt := 447) hx hb dX0_noLetters_428 (by decide) (by omega) (by omega) (fun c9 => absurd c9 (by omega)) (fun _ => ?_)
    refine lv_aload_n hx hb dX0_noLetters_431 rfl (lv_at hl 0 rfl) ?_
    refine lv_ldc (v := 65536) hx hb hown (hts _ q47) dX0_noLetters_432 ?_
    refine n_top (y := (nI 65536)) (by decide +kernel) ?_
    refine lv_iload hx hb dX0_noLetters_434 (lv_at hl 1 rfl) ?_
    refine n_iadd (r := 65536 + k0) hx hb dX0_noLetters_436 rfl ?_
    refine c_lay (X := []) hC hcap (by omega) hK hw hl.1 (Nat.le_of_ble_eq_true rfl) dX0_noLetters_437 (fun H locs hw => ?_)
    have hw : tw_Wd dC dI A s (tw_WL dB dH h t q (tw_layB b ((tw_Ts tw_fl 0 k0).length) (nI (65536 + k0))) (fun _ => nI 0) (tw_layN ((tw_Ts tw_fl 0 k0).length) (nI (65536 + k0))) (nI 0)) H locs := hw
    have hp : tw_num (nI (65536 + k0)) = tw_fl k0 := by rw [hfk]; exact tw_num_nI (by omega)
    have e1 : tw_layB b ((tw_Ts tw_fl 0 k0).length) (nI (65536 + k0)) = tw_put b (tw_Ts tw_fl 0 k0).length (tw_utf (tw_fl k0)) := by unfold tw_layB; rw [if_pos (by omega), hp]
    have e2 : tw_layN ((tw_Ts tw_fl 0 k0).length) (nI (65536 + k0)) = (tw_Ts tw_fl 0 (k0 + 1)).length := by unfold tw_layN; rw [if_pos (by omega), hp, tw_Ts_s0, List.length_append]
    rw [e1, e2] at hw
    refine lv_pop hx hb dX0_noLetters_440 rfl ?_
    refine lv_iinc (lv' := [(4, .int (nI (k0 + 1))), (3, .ref h)]) (k := 1) hx hb dX0_noLetters_441 hl rfl (n_inc1 rfl) (by decide) rfl (fun ls hl => ?_)
    refine lv_goto (tgt := 423) hx hb dX0_noLetters_444 (by decide) ?_
    have hl : lv_has ls 9 [(3, .ref h), (4, .int (nI (k0 + 1)))] := lv_sub hl [1, 0] rfl
    exact ih (k0 + 1) _ H locs ls (by omega) (tw_put_256 _ b _ hb6 (tw_utf_256 (by omega))) (by rw [tw_Ts_s0]; exact tw_at_put hat) hw hl
set_option maxHeartbeats 4000000 in
/-- the store is full -/
theorem no_T {p : Program} {l : Launch} {e : Env} {R : Room} {s : State} {m : MethodId} {args : Array Value} {below : List Frame} {meth : Method} {c : Code} {Q : State → Prop} {dC : Nat → ClassId} {dI : Nat → Nat → Nat} {A : Nat → Prop} {dB dH : ClassId} {h t q : Nat} {b : Nat → Nat} {H : Heap} {locs : List Loc} {ls : Array Slot}
  (hC : tw_C p c s m args R A cX0_noLetters 9) (hroom : 50 ≤ R.cells ∧ 32847 ≤ R.slots) (hK0 : va_K (dC, dI) vwCl [] s) (hK : va_K (dC, dI) vwCl [(dB, .byte), (dH, .char)] s)
  (kR : ∀ (X : va_W) (pc : Nat) (ls : Array Slot) (H : Heap) (locs : List Loc), decode cX0_noLetters pc = .ok (.ireturn, 1) → tw_Wd dC dI A s X H locs → W p l e R s m args below meth c H locs 50 32847 Q (F0 m pc ls [.int (nI 1)]))
  (hb6 : ∀ j, b j < 256) (hat : tw_at b 0 (tw_Ts tw_fl 0 255)) (hw : tw_Wd dC dI A s (tw_WL dB dH h t q b (fun _ => nI 0) ((tw_Ts tw_fl 0 255).length) (nI 0)) H locs) (hl : lv_has ls 9 [(3, .ref h)]) : W p l e R s m args below meth c H locs 50 32847 Q (F0 m 447 ls []) := by
  have hx := hC.1.1
  have hb := hC.1.2.1
  have hown := hC.1.2.2.2.1
  have hts := hC.1.2.2.2.2
  have hcap : 50 ≤ R.cells ∧ 32847 ≤ R.slots := hroom
  have hT255 := tw_fl_T 255
  have hT256 := tw_fl_T 256
  have hU255 := tw_fl_U 255
  have hU256 := tw_fl_U 256
  have hf255 : tw_fl 255 = 1114111 := by decide +kernel
  refine lv_aload_n hx hb dX0_noLetters_447 rfl (lv_at hl 0 rfl) ?_
  refine c_size (X := []) hC hcap hK hw hl.1 (Nat.le_of_ble_eq_true rfl) dX0_noLetters_448 (fun H locs hw => ?_)
  have hw : tw_Wd dC dI A s (tw_WL dB dH h t q b (fun _ => nI 0) ((tw_Ts tw_fl 0 255).length) (nI 0)) H locs := hw
  refine n_top (y := (nI 1020)) (congrArg nI hT255) ?_
  refine lv_sipush (v := nI 1020) hx hb dX0_noLetters_451 (by decide +kernel) ?_
  refine n_neF (tgt := 518) hx hb dX0_noLetters_454 (by decide) rfl ?_
  refine lv_aload_n hx hb dX0_noLetters_457 rfl (lv_at hl 0 rfl) ?_
  refine lv_ldc (v := 1114111) hx hb hown (hts _ q83) dX0_noLetters_458 ?_
  refine n_top (y := (nI 1114111)) (by decide +kernel) ?_
  refine c_lay (X := []) hC hcap (by omega) hK hw hl.1 (Nat.le_of_ble_eq_true rfl) dX0_noLetters_460 (fun H locs hw => ?_)
  have hw : tw_Wd dC dI A s (tw_WL dB dH h t q (tw_layB b ((tw_Ts tw_fl 0 255).length) (nI 1114111)) (fun _ => nI 0) (tw_layN ((tw_Ts tw_fl 0 255).length) (nI 1114111)) (nI 0)) H locs := hw
  have hp : tw_num (nI 1114111) = tw_fl 255 := by rw [hf255]; exact tw_num_nI (by decide)
  have e1 : tw_layB b ((tw_Ts tw_fl 0 255).length) (nI 1114111) = tw_put b (tw_Ts tw_fl 0 255).length (tw_utf (tw_fl 255)) := by unfold tw_layB; rw [if_pos (by omega), hp]
  have e2 : tw_layN ((tw_Ts tw_fl 0 255).length) (nI 1114111) = (tw_Ts tw_fl 0 256).length := by unfold tw_layN; rw [if_pos (by omega), hp]; exact ((congrArg List.length (tw_Ts_s0 tw_fl 255)).trans List.length_append).symm
  have e3 : tw_layR ((tw_Ts tw_fl 0 255).length) (nI 1114111) = nI 1024 := by unfold tw_layR; rw [if_pos (by omega), e2, hT256]
  rw [e1, e2] at hw
  have hw : tw_Wd dC dI A s (tw_WL dB dH h t q (tw_put b (tw_Ts tw_fl 0 255).length (tw_utf (tw_fl 255))) (fun _ => nI 0) ((tw_Ts tw_fl 0 256).length) (nI 0)) H locs := hw
  refine n_top (y := (nI 1024)) e3 ?_
  have hat2 : tw_at (tw_put b (tw_Ts tw_fl 0 255).length (tw_utf (tw_fl 255))) 0 (tw_Ts tw_fl 0 256) := by rw [show tw_Ts tw_fl 0 256 = tw_Ts tw_fl 0 255 ++ tw_utf (tw_fl 255) from tw_Ts_s0 tw_fl 255]; exact tw_at_put hat
  have hb6 : ∀ j, (tw_put b (tw_Ts tw_fl 0 255).length (tw_utf (tw_fl 255))) j < 256 := tw_put_256 _ b _ hb6 (tw_utf_256 (by omega))
  refine lv_sipush (v := nI 1024) hx hb dX0_noLetters_463 (by decide +kernel) ?_
  refine n_neF (tgt := 518) hx hb dX0_noLetters_466 (by decide) rfl ?_
  refine lv_aload_n hx hb dX0_noLetters_469 rfl (lv_at hl 0 rfl) ?_
  refine lv_iconst (v := nI 0) hx hb dX0_noLetters_470 (by decide +kernel) ?_
  refine c_lay (X := []) hC hcap (by omega) hK hw hl.1 (Nat.le_of_ble_eq_true rfl) dX0_noLetters_471 (fun H locs hw => ?_)
  have hw : tw_Wd dC dI A s (tw_WL dB dH h t q (tw_layB (tw_put b (tw_Ts tw_fl 0 255).length (tw_utf (tw_fl 255))) ((tw_Ts tw_fl 0 256).length) (nI 0)) (fun _ => nI 0) (tw_layN ((tw_Ts tw_fl 0 256).length) (nI 0)) (nI 0)) H locs := hw
  have e4 : tw_layB (tw_put b (tw_Ts tw_fl 0 255).length (tw_utf (tw_fl 255))) ((tw_Ts tw_fl 0 256).length) (nI 0) = tw_put b (tw_Ts tw_fl 0 255).length (tw_utf (tw_fl 255)) := if_neg (by omega)
  have e5 : tw_layN ((tw_Ts tw_fl 0 256).length) (nI 0) = (tw_Ts tw_fl 0 256).length := if_neg (by omega)
  have e6 : tw_layR ((tw_Ts tw_fl 0 256).length) (nI 0) = -1 := if_neg (by omega)
  rw [e4, e5] at hw
  refine n_top (y := (-1)) e6 ?_
  refine lv_iconst (v := -1) hx hb dX0_noLetters_474 (by decide +kernel) ?_
  refine n_neF (tgt := 518) hx hb dX0_noLetters_475 (by decide) rfl ?_
  refine lv_aload_n hx hb dX0_noLetters_478 rfl (lv_at hl 0 rfl) ?_
  refine c_size (X := []) hC hcap hK hw hl.1 (Nat.le_of_ble_eq_true rfl) dX0_noLetters_479 (fun H locs hw => ?_)
  have hw : tw_Wd dC dI A s (tw_WL dB dH h t q (tw_put b (tw_Ts tw_fl 0 255).length (tw_utf (tw_fl 255))) (fun _ => nI 0) ((tw_Ts tw_fl 0 256).length) (nI 0)) H locs := hw
  refine n_top (y := (nI 1024)) (congrArg nI hT256) ?_
  refine lv_sipush (v := nI 1024) hx hb dX0_noLetters_482 (by decide +kernel) ?_
  refine n_neF (tgt := 518) hx hb dX0_noLetters_485 (by decide) rfl ?_
  refine lv_aload_n hx hb dX0_noLetters_488 rfl (lv_at hl 0 rfl) ?_
  refine lv_iconst (v := nI 0) hx hb dX0_noLetters_489 (by decide +kernel) ?_
  refine lv_sipush (v := nI 1024) hx hb dX0_noLetters_490 (by decide +kernel) ?_
  refine c_read (X := []) hC hcap hb6 (by omega) (by omega) hK hw hl.1 (Nat.le_of_ble_eq_true rfl) dX0_noLetters_493 (fun r g1 H locs ho hw => ?_)
  have hw : tw_Wd dC dI A s (tw_WL dB dH h t q (tw_put b (tw_Ts tw_fl 0 255).length (tw_utf (tw_fl 255))) g1 ((tw_Ts tw_fl 0 256).length) r) H locs := hw
  rw [tw_dec_Ts (f := tw_fl) (a := 0) (k := 256) tw_fl_sc hat2 (by omega)] at ho
  refine n_top (y := (nI 512)) (by rw [ho.1, hU256]) ?_
  refine lv_sipush (v := nI 512) hx hb dX0_noLetters_496 (by decide +kernel) ?_
  refine n_neF (tgt := 518) hx hb dX0_noLetters_499 (by decide) rfl ?_
  obtain ⟨k1, k2⟩ := tw_Us_get (f := tw_fl) (a := 0) (k := 255) (K := 256) (j := 1) (by decide) (by decide +kernel)
  rw [hU255] at k1 k2
  refine lv_aload_n hx hb dX0_noLetters_502 rfl (lv_at hl 0 rfl) ?_
  refine lv_sipush (v := nI 511) hx hb dX0_noLetters_503 (by decide +kernel) ?_
  refine c_letter (X := []) hC hcap (by omega) (tw_out_rd ho (by omega)) hK hw hl.1 (Nat.le_of_ble_eq_true rfl) dX0_noLetters_506 (fun H locs hw => ?_)
  have hw : tw_Wd dC dI A s (tw_WL dB dH h t q (tw_put b (tw_Ts tw_fl 0 255).length (tw_utf (tw_fl 255))) g1 ((tw_Ts tw_fl 0 256).length) r) H locs := hw
  refine n_top (y := (nI 57343)) (by rw [tw_let_at ho k1 (by omega), k2]; decide +kernel) ?_
  refine lv_ldc (v := 57343) hx hb hown (hts _ q71) dX0_noLetters_509 ?_
  refine n_top (y := (nI 57343)) (by decide +kernel) ?_
  refine n_neF (tgt := 518) hx hb dX0_noLetters_511 (by decide) rfl ?_
  refine lv_iconst (v := nI 1) hx hb dX0_noLetters_514 (by decide +kernel) ?_
  refine lv_goto (tgt := 519) hx hb dX0_noLetters_515 (by decide) ?_
  exact kR _ 519 _ H locs dX0_noLetters_519 hw
set_option maxHeartbeats 4000000 in
/-- noLetters' body -/
theorem no_body {p : Program} {l : Launch} {e : Env} {R : Room} {s : State} {m : MethodId} {args : Array Value} {below : List Frame} {meth : Method} {c : Code} {Q : State → Prop} {dC : Nat → ClassId} {dI : Nat → Nat → Nat} {A : Nat → Prop} {b0 L : Nat} {xs : Nat → Int32}
  (hC : tw_C p c s m args R A cX0_noLetters 9) (hroom : 50 ≤ R.cells ∧ 32847 ≤ R.slots) (hX : va_X b0 L xs s s.heap) (hbl : b0 < s.heap.size) (hbA : ¬ A b0) (hL : L ≤ 40) (hK0 : va_K (dC, dI) vwCl [] s)
  (kR : ∀ (X : va_W) (pc : Nat) (ls : Array Slot) (H : Heap) (locs : List Loc), decode cX0_noLetters pc = .ok (.ireturn, 1) → tw_Wd dC dI A s X H locs → W p l e R s m args below meth c H locs 50 32847 Q (F0 m pc ls [.int (nI 1)])) (ls : Array Slot) (hl : lv_has ls 9 [(0, .ref b0)]) : W p l e R s m args below meth c s.heap [] 0 0 Q (F0 m 0 ls []) := by
  have hx := hC.1.1
  have hb := hC.1.2.1
  have hown := hC.1.2.2.2.1
  have hts := hC.1.2.2.2.2
  have hw : tw_Wd dC dI A s [] s.heap [] := tw_empty
  refine lv_bipush (v := nI 7) hx hb dX0_noLetters_0 (by decide +kernel) ?_
  refine c_newi (X := []) (tw_ln (tw_none (if 0 < L then xs 0 else nI 0) (if 1 < L then xs 1 else nI 0)) 0) (fun j => if_neg (by omega)) hC ⟨by omega, by omega⟩ (by decide) hK0 hw dX0_noLetters_2 (fun ta dT H hKT hw => ?_)
  have h5 := Nat.mod_lt (if 0 < L then xs 0 else nI 0).toBitVec.toNat (show 0 < 2048 by decide)
  have h6 := Nat.mod_lt ((if 1 < L then xs 1 else nI 0).toBitVec.toNat % 2147483648) (show 0 < 983040 by decide)
  have h7 := Nat.mod_lt (if 1 < L then xs 1 else nI 0).toBitVec.toNat (show 0 < 2147483648 by decide)
  refine lv_dup hx hb dX0_noLetters_4 rfl ?_
  refine lv_iconst (v := nI 0) hx hb dX0_noLetters_5 (by decide +kernel) ?_
  refine lv_ldc (v := 55296) hx hb hown (hts _ q48) dX0_noLetters_6 ?_
  refine n_top (y := (nI 55296)) (by decide +kernel) ?_
  refine tw_iast (X1 := [(ta, .inl (dT, 7, .inl (tw_ln (tw_none (if 0 < L then xs 0 else nI 0) (if 1 < L then xs 1 else nI 0)) 1)))]) hx hb hKT hw 0 0 rfl rfl (by decide) (by decide) (by rw [tw_ln_s (tw_none (if 0 < L then xs 0 else nI 0) (if 1 < L then xs 1 else nI 0)) 0 (55296) rfl]; rfl) dX0_noLetters_8 (fun H locs hw => ?_)
  refine lv_dup hx hb dX0_noLetters_9 rfl ?_
  refine lv_iconst (v := nI 1) hx hb dX0_noLetters_10 (by decide +kernel) ?_
  refine lv_ldc (v := 57343) hx hb hown (hts _ q71) dX0_noLetters_11 ?_
  refine n_top (y := (nI 57343)) (by decide +kernel) ?_
  refine tw_iast (X1 := [(ta, .inl (dT, 7, .inl (tw_ln (tw_none (if 0 < L then xs 0 else nI 0) (if 1 < L then xs 1 else nI 0)) 2)))]) hx hb hKT hw 0 0 rfl rfl (by decide) (by decide) (by rw [tw_ln_s (tw_none (if 0 < L then xs 0 else nI 0) (if 1 < L then xs 1 else nI 0)) 1 (57343) rfl]; rfl) dX0_noLetters_13 (fun H locs hw => ?_)
  refine lv_dup hx hb dX0_noLetters_14 rfl ?_
  refine lv_iconst (v := nI 2) hx hb dX0_noLetters_15 (by decide +kernel) ?_
  refine lv_ldc (v := 56320) hx hb hown (hts _ q49) dX0_noLetters_16 ?_
  refine n_top (y := (nI 56320)) (by decide +kernel) ?_
  refine tw_iast (X1 := [(ta, .inl (dT, 7, .inl (tw_ln (tw_none (if 0 < L then xs 0 else nI 0) (if 1 < L then xs 1 else nI 0)) 3)))]) hx hb hKT hw 0 0 rfl rfl (by decide) (by decide) (by rw [tw_ln_s (tw_none (if 0 < L then xs 0 else nI 0) (if 1 < L then xs 1 else nI 0)) 2 (56320) rfl]; rfl) dX0_noLetters_18 (fun H locs hw => ?_)
  refine lv_dup hx hb dX0_noLetters_19 rfl ?_
  refine lv_iconst (v := nI 3) hx hb dX0_noLetters_20 (by decide +kernel) ?_
  refine lv_ldc (v := 1114112) hx hb hown (hts _ q72) dX0_noLetters_21 ?_
  refine n_top (y := (nI 1114112)) (by decide +kernel) ?_
  refine tw_iast (X1 := [(ta, .inl (dT, 7, .inl (tw_ln (tw_none (if 0 < L then xs 0 else nI 0) (if 1 < L then xs 1 else nI 0)) 4)))]) hx hb hKT hw 0 0 rfl rfl (by decide) (by decide) (by rw [tw_ln_s (tw_none (if 0 < L then xs 0 else nI 0) (if 1 < L then xs 1 else nI 0)) 3 (1114112) rfl]; rfl) dX0_noLetters_23 (fun H locs hw => ?_)
  refine lv_dup hx hb dX0_noLetters_24 rfl ?_
  refine lv_iconst (v := nI 4) hx hb dX0_noLetters_25 (by decide +kernel) ?_
  refine lv_ldc (v := 2097151) hx hb hown (hts _ q73) dX0_noLetters_26 ?_
  refine n_top (y := (nI 2097151)) (by decide +kernel) ?_
  refine tw_iast (X1 := [(ta, .inl (dT, 7, .inl (tw_ln (tw_none (if 0 < L then xs 0 else nI 0) (if 1 < L then xs 1 else nI 0)) 5)))]) hx hb hKT hw 0 0 rfl rfl (by decide) (by decide) (by rw [tw_ln_s (tw_none (if 0 < L then xs 0 else nI 0) (if 1 < L then xs 1 else nI 0)) 4 (2097151) rfl]; rfl) dX0_noLetters_28 (fun H locs hw => ?_)
  refine lv_dup hx hb dX0_noLetters_29 rfl ?_
  refine lv_iconst (v := nI 5) hx hb dX0_noLetters_30 (by decide +kernel) ?_
  refine lv_ldc (v := 55296) hx hb hown (hts _ q48) dX0_noLetters_31 ?_
  refine n_top (y := (nI 55296)) (by decide +kernel) ?_
  refine lv_aload_n hx hb dX0_noLetters_33 rfl (lv_at hl 0 rfl) ?_
  refine lv_iconst (v := nI 0) hx hb dX0_noLetters_34 (by decide +kernel) ?_
  refine c_cell (X := [(ta, .inl (dT, 7, .inl (tw_ln (tw_none (if 0 < L then xs 0 else nI 0) (if 1 < L then xs 1 else nI 0)) 5)))]) hC ⟨by omega, by omega⟩ hL (by decide) hX hbl hbA hw hl.1 (Nat.le_of_ble_eq_true rfl) dX0_noLetters_35 (fun H locs hw => ?_)
  refine lv_sipush (v := nI 2047) hx hb dX0_noLetters_38 (by decide +kernel) ?_
  refine n_iand (r := (if 0 < L then xs 0 else nI 0).toBitVec.toNat % 2048) hx hb dX0_noLetters_41 11 (by decide +kernel) rfl ?_
  refine n_iadd (r := 55296 + (if 0 < L then xs 0 else nI 0).toBitVec.toNat % 2048) hx hb dX0_noLetters_42 rfl ?_
  refine tw_iast (X1 := [(ta, .inl (dT, 7, .inl (tw_ln (tw_none (if 0 < L then xs 0 else nI 0) (if 1 < L then xs 1 else nI 0)) 6)))]) hx hb hKT hw 0 0 rfl rfl (by decide) (by decide) (by rw [tw_ln_s (tw_none (if 0 < L then xs 0 else nI 0) (if 1 < L then xs 1 else nI 0)) 5 (55296 + (if 0 < L then xs 0 else nI 0).toBitVec.toNat % 2048) rfl]; rfl) dX0_noLetters_43 (fun H locs hw => ?_)
  refine lv_dup hx hb dX0_noLetters_44 rfl ?_
  refine lv_bipush (v := nI 6) hx hb dX0_noLetters_45 (by decide +kernel) ?_
  refine lv_ldc (v := 1114112) hx hb hown (hts _ q72) dX0_noLetters_47 ?_
  refine n_top (y := (nI 1114112)) (by decide +kernel) ?_
  refine lv_aload_n hx hb dX0_noLetters_49 rfl (lv_at hl 0 rfl) ?_
  refine lv_iconst (v := nI 1) hx hb dX0_noLetters_50 (by decide +kernel) ?_
  refine c_cell (X := [(ta, .inl (dT, 7, .inl (tw_ln (tw_none (if 0 < L then xs 0 else nI 0) (if 1 < L then xs 1 else nI 0)) 6)))]) hC ⟨by omega, by omega⟩ hL (by decide) hX hbl hbA hw hl.1 (Nat.le_of_ble_eq_true rfl) dX0_noLetters_51 (fun H locs hw => ?_)
  refine lv_ldc (v := 2147483647) hx hb hown (hts _ q74) dX0_noLetters_54 ?_
  refine n_top (y := (nI 2147483647)) (by decide +kernel) ?_
  refine n_iand (r := (if 1 < L then xs 1 else nI 0).toBitVec.toNat % 2147483648) hx hb dX0_noLetters_56 31 (by decide +kernel) rfl ?_
  refine lv_ldc (v := 983040) hx hb hown (hts _ q75) dX0_noLetters_57 ?_
  refine n_top (y := (nI 983040)) (by decide +kernel) ?_
  refine n_irem (r := (if 1 < L then xs 1 else nI 0).toBitVec.toNat % 2147483648 % 983040) hx hb dX0_noLetters_59 (by omega) (by omega) (by omega) rfl ?_
  refine n_iadd (r := 1114112 + (if 1 < L then xs 1 else nI 0).toBitVec.toNat % 2147483648 % 983040) hx hb dX0_noLetters_60 rfl ?_
  refine tw_iast (X1 := [(ta, .inl (dT, 7, .inl (tw_ln (tw_none (if 0 < L then xs 0 else nI 0) (if 1 < L then xs 1 else nI 0)) 7)))]) hx hb hKT hw 0 0 rfl rfl (by decide) (by decide) (by rw [tw_ln_s (tw_none (if 0 < L then xs 0 else nI 0) (if 1 < L then xs 1 else nI 0)) 6 (1114112 + (if 1 < L then xs 1 else nI 0).toBitVec.toNat % 2147483648 % 983040) rfl]; rfl) dX0_noLetters_61 (fun H locs hw => ?_)
  refine lv_astore_n (lv' := [(1, .ref ta), (0, .ref b0)]) hx hb dX0_noLetters_62 rfl hl (by decide) rfl (fun ls hl => ?_)
  refine lv_aload_n hx hb dX0_noLetters_63 rfl (lv_at hl 0 rfl) ?_
  refine lv_astore_n (lv' := [(2, .ref ta), (1, .ref ta), (0, .ref b0)]) hx hb dX0_noLetters_64 rfl hl (by decide) rfl (fun ls hl => ?_)
  refine lv_aload_n hx hb dX0_noLetters_65 rfl (lv_at hl 0 rfl) ?_
  refine tw_alen hx hb hKT hw 0 0 rfl rfl dX0_noLetters_66 ?_
  refine lv_istore_n (lv' := [(3, .int (nI 7)), (2, .ref ta), (1, .ref ta), (0, .ref b0)]) hx hb dX0_noLetters_67 rfl hl (by decide) rfl (fun ls hl => ?_)
  refine lv_iconst (v := nI 0) hx hb dX0_noLetters_68 (by decide +kernel) ?_
  refine lv_istore (lv' := [(4, .int (nI 0)), (3, .int (nI 7)), (2, .ref ta), (1, .ref ta), (0, .ref b0)]) hx hb dX0_noLetters_69 hl (by decide) rfl (fun ls hl => ?_)
  have hl : lv_has ls 9 [(0, .ref b0), (2, .ref ta), (3, .int (nI 7)), (4, .int (nI 0))] := lv_sub hl [4, 2, 1, 0] rfl
  refine no_F hC hroom hK0 hKT (fun H locs ls hw hl => ?_) 7 0 (0 + 1) (0 + 7) H locs ls (by omega) (by omega) (by omega) hw hl
  have hw : tw_Wd dC dI A s [] H locs := hw.sub [] (by decide) rfl rfl
  refine lv_bipush (v := nI 8) hx hb dX0_noLetters_167 (by decide +kernel) ?_
  refine c_newi (X := []) (tw_ln tw_some 0) (fun j => if_neg (by omega)) hC ⟨by omega, by omega⟩ (by decide) hK0 hw dX0_noLetters_169 (fun ta dT H hKT hw => ?_)
  refine lv_dup hx hb dX0_noLetters_171 rfl ?_
  refine lv_iconst (v := nI 0) hx hb dX0_noLetters_172 (by decide +kernel) ?_
  refine lv_sipush (v := nI 128) hx hb dX0_noLetters_173 (by decide +kernel) ?_
  refine tw_iast (X1 := [(ta, .inl (dT, 8, .inl (tw_ln tw_some 1)))]) hx hb hKT hw 0 0 rfl rfl (by decide) (by decide) (by rw [tw_ln_s tw_some 0 128 rfl]; rfl) dX0_noLetters_176 (fun H locs hw => ?_)
  refine lv_dup hx hb dX0_noLetters_177 rfl ?_
  refine lv_iconst (v := nI 1) hx hb dX0_noLetters_178 (by decide +kernel) ?_
  refine lv_sipush (v := nI 2047) hx hb dX0_noLetters_179 (by decide +kernel) ?_
  refine tw_iast (X1 := [(ta, .inl (dT, 8, .inl (tw_ln tw_some 2)))]) hx hb hKT hw 0 0 rfl rfl (by decide) (by decide) (by rw [tw_ln_s tw_some 1 2047 rfl]; rfl) dX0_noLetters_182 (fun H locs hw => ?_)
  refine lv_dup hx hb dX0_noLetters_183 rfl ?_
  refine lv_iconst (v := nI 2) hx hb dX0_noLetters_184 (by decide +kernel) ?_
  refine lv_sipush (v := nI 2048) hx hb dX0_noLetters_185 (by decide +kernel) ?_
  refine tw_iast (X1 := [(ta, .inl (dT, 8, .inl (tw_ln tw_some 3)))]) hx hb hKT hw 0 0 rfl rfl (by decide) (by decide) (by rw [tw_ln_s tw_some 2 2048 rfl]; rfl) dX0_noLetters_188 (fun H locs hw => ?_)
  refine lv_dup hx hb dX0_noLetters_189 rfl ?_
  refine lv_iconst (v := nI 3) hx hb dX0_noLetters_190 (by decide +kernel) ?_
  refine lv_ldc (v := 55295) hx hb hown (hts _ q80) dX0_noLetters_191 ?_
  refine n_top (y := (nI 55295)) (by decide +kernel) ?_
  refine tw_iast (X1 := [(ta, .inl (dT, 8, .inl (tw_ln tw_some 4)))]) hx hb hKT hw 0 0 rfl rfl (by decide) (by decide) (by rw [tw_ln_s tw_some 3 55295 rfl]; rfl) dX0_noLetters_193 (fun H locs hw => ?_)
  refine lv_dup hx hb dX0_noLetters_194 rfl ?_
  refine lv_iconst (v := nI 4) hx hb dX0_noLetters_195 (by decide +kernel) ?_
  refine lv_ldc (v := 57344) hx hb hown (hts _ q81) dX0_noLetters_196 ?_
  refine n_top (y := (nI 57344)) (by decide +kernel) ?_
  refine tw_iast (X1 := [(ta, .inl (dT, 8, .inl (tw_ln tw_some 5)))]) hx hb hKT hw 0 0 rfl rfl (by decide) (by decide) (by rw [tw_ln_s tw_some 4 57344 rfl]; rfl) dX0_noLetters_198 (fun H locs hw => ?_)
  refine lv_dup hx hb dX0_noLetters_199 rfl ?_
  refine lv_iconst (v := nI 5) hx hb dX0_noLetters_200 (by decide +kernel) ?_
  refine lv_ldc (v := 65535) hx hb hown (hts _ q82) dX0_noLetters_201 ?_
  refine n_top (y := (nI 65535)) (by decide +kernel) ?_
  refine tw_iast (X1 := [(ta, .inl (dT, 8, .inl (tw_ln tw_some 6)))]) hx hb hKT hw 0 0 rfl rfl (by decide) (by decide) (by rw [tw_ln_s tw_some 5 65535 rfl]; rfl) dX0_noLetters_203 (fun H locs hw => ?_)
  refine lv_dup hx hb dX0_noLetters_204 rfl ?_
  refine lv_bipush (v := nI 6) hx hb dX0_noLetters_205 (by decide +kernel) ?_
  refine lv_ldc (v := 65536) hx hb hown (hts _ q47) dX0_noLetters_207 ?_
  refine n_top (y := (nI 65536)) (by decide +kernel) ?_
  refine tw_iast (X1 := [(ta, .inl (dT, 8, .inl (tw_ln tw_some 7)))]) hx hb hKT hw 0 0 rfl rfl (by decide) (by decide) (by rw [tw_ln_s tw_some 6 65536 rfl]; rfl) dX0_noLetters_209 (fun H locs hw => ?_)
  refine lv_dup hx hb dX0_noLetters_210 rfl ?_
  refine lv_bipush (v := nI 7) hx hb dX0_noLetters_211 (by decide +kernel) ?_
  refine lv_ldc (v := 1114111) hx hb hown (hts _ q83) dX0_noLetters_213 ?_
  refine n_top (y := (nI 1114111)) (by decide +kernel) ?_
  refine tw_iast (X1 := [(ta, .inl (dT, 8, .inl (tw_ln tw_some 8)))]) hx hb hKT hw 0 0 rfl rfl (by decide) (by decide) (by rw [tw_ln_s tw_some 7 1114111 rfl]; rfl) dX0_noLetters_215 (fun H locs hw => ?_)
  refine lv_astore_n (lv' := [(2, .ref ta), (0, .ref b0)]) hx hb dX0_noLetters_216 rfl hl (by decide) rfl (fun ls hl => ?_)
  refine lv_aload_n hx hb dX0_noLetters_217 rfl (lv_at hl 0 rfl) ?_
  refine lv_astore_n (lv' := [(3, .ref ta), (2, .ref ta), (0, .ref b0)]) hx hb dX0_noLetters_218 rfl hl (by decide) rfl (fun ls hl => ?_)
  refine lv_aload_n hx hb dX0_noLetters_219 rfl (lv_at hl 0 rfl) ?_
  refine tw_alen hx hb hKT hw 0 0 rfl rfl dX0_noLetters_220 ?_
  refine lv_istore (lv' := [(4, .int (nI 8)), (3, .ref ta), (2, .ref ta), (0, .ref b0)]) hx hb dX0_noLetters_221 hl (by decide) rfl (fun ls hl => ?_)
  refine lv_iconst (v := nI 0) hx hb dX0_noLetters_223 (by decide +kernel) ?_
  refine lv_istore (lv' := [(5, .int (nI 0)), (4, .int (nI 8)), (3, .ref ta), (2, .ref ta), (0, .ref b0)]) hx hb dX0_noLetters_224 hl (by decide) rfl (fun ls hl => ?_)
  have hl : lv_has ls 9 [(0, .ref b0), (3, .ref ta), (4, .int (nI 8)), (5, .int (nI 0))] := lv_sub hl [4, 2, 1, 0] rfl
  refine no_G hC hroom hK0 hKT (fun H locs ls hw hl => ?_) 8 0 (22 + 1) (14371 + 8) H locs ls (by omega) (by omega) (by omega) hw hl
  have hw : tw_Wd dC dI A s [] H locs := hw.sub [] (by decide) rfl rfl
  refine c_mk (X := []) hC ⟨by omega, by omega⟩ hK0 hw hl.1 (Nat.le_of_ble_eq_true rfl) dX0_noLetters_412 dX0_noLetters_415 dX0_noLetters_416 (fun h t q dB dH H locs hK hw => ?_)
  have hw : tw_Wd dC dI A s (tw_WL dB dH h t q (fun _ => 0) (fun _ => nI 0) 0 (nI 0)) H locs := hw
  refine W.widen (k := 50) (n := 32847) (Nat.le_of_ble_eq_true rfl) (Nat.le_of_ble_eq_true rfl) ?_
  refine lv_astore_n (lv' := [(3, .ref h), (0, .ref b0)]) hx hb dX0_noLetters_419 rfl hl (by decide) rfl (fun ls hl => ?_)
  refine lv_iconst (v := nI 0) hx hb dX0_noLetters_420 (by decide +kernel) ?_
  refine lv_istore (lv' := [(4, .int (nI 0)), (3, .ref h), (0, .ref b0)]) hx hb dX0_noLetters_421 hl (by decide) rfl (fun ls hl => ?_)
  have hl : lv_has ls 9 [(3, .ref h), (4, .int (nI 0))] := lv_sub hl [1, 0] rfl
  exact no_H hC hroom hK0 hK (fun b H locs ls hb6 hat hw hl => no_T hC hroom hK0 hK kR hb6 hat hw hl) 255 0 (fun _ => 0) H locs ls (by omega) (fun _ => (by decide : 0 < 256)) (tw_at_nil _ _) hw hl
set_option maxHeartbeats 4000000 in
set_option maxRecDepth 100000 in
/-- noLetters(s) answers true -/
theorem met_noLetters (l : Launch) (dC : Nat → ClassId) (dI : Nat → Nat → Nat) (b0 L sz : Nat) (xs : Nat → Int32) (hL : L ≤ 40) : Met l yX0_noLetters (ws_ yX0_noLetters cX0_noLetters 9 (some .boolean)) ({ frames := 3, cells := 50, slots := 32847, locals := 100 }) (va_Pc [.ref b0] (tw_PreL dC dI b0 L xs sz)) (tw_QL (fun q => sz ≤ q)) 50 32847 (fun q => sz ≤ q) := by
  refine Met.ofW (cc := cX0_noLetters) (maxL := 9) (ret := some .boolean) (by decide) rfl ?_
  intro p e s m args below meth c s₁ B hml hv
  obtain ⟨rfl, hsz, hX, hbl, hK0, hT⟩ := hv
  have hr := B.returns
  have hlocks := B.notSynchronized
  have hx := B.exec
  have hb := B.bytes
  have hts := atoms_spec (ws := ws_ yX0_noLetters cX0_noLetters 9 (some .boolean)) B.pre
  have hts : ∀ w ∈ lw_all, w.before _ s = true := fun w h => hts w (List.mem_cons_of_mem _ h)
  have hown : s.vm.findClass RX0 = some m.cls := findClass_of_methodNamed B.named
  subst hsz
  have hbA : ¬ (fun q : Nat => s.heap.size ≤ q) b0 := fun h9 => absurd hbl (Nat.not_lt.mpr h9)
  have hA : ∀ q : Nat, s.heap.size ≤ q → (fun q : Nat => s.heap.size ≤ q) q := fun q h9 => h9
  generalize (fun q : Nat => s.heap.size ≤ q) = A at hT hbA hA ⊢
  have hl := lv_entry ([.ref b0]) (n := 9) (Nat.le_of_ble_eq_true rfl)
  rw [lg_entry_eq]
  generalize (lg_sl ([.ref b0]) ++ List.replicate (9 - (lg_sl ([.ref b0])).length) Slot.unset).toArray = ls at hl ⊢
  have hl : lv_has ls 9 [(0, .ref b0)] := hl
  refine no_body (tw_C_of hx hb hml hown hts (Nat.le_of_ble_eq_true rfl) (Nat.le_of_ble_eq_true rfl) hT hA) ⟨Nat.le_of_ble_eq_true rfl, Nat.le_of_ble_eq_true rfl⟩ hX hbl hbA hL hK0 (fun X pc ls H locs d hw => ?_) ls hl
  exact W.zret (v := nI 1) hx hb hr rfl (fun T ht _ => ⟨⟨nI 1, (), rfl, rfl, trivial⟩, hw.2.2.F ht⟩) hw.2.2.2.2 d
end
section
/-! the law's start: the tables, a call of one of its parts -/
set_option maxRecDepth 100000
abbrev tw_flat : List Cond := flatC (Jvm.Cond.and given_1 narrow_1)
abbrev tw_t1 : Term := .static "UTF8" "firstUnitTable" "[S"
abbrev tw_t2 : Term := .static "UTF8" "transitionTable" "[B"
theorem tw_fl1 : ∀ j, j < 128 → tw_flat[7 + j]? = some (Cond.eq (.elem tw_t1 (.int (Int32.ofNat j))) (.int (tw_FU j))) := by decide +kernel
theorem tw_fl2 : ∀ j, j < 112 → tw_flat[138 + j]? = some (Cond.eq (.elem tw_t2 (.int (Int32.ofNat j))) (.int (tw_TR j))) := by decide +kernel
theorem tw_fl1a : tw_flat[5]? = some (Cond.arrayOf tw_t1 .short) := by decide +kernel
theorem tw_fl1b : tw_flat[6]? = some (Cond.eq (.length tw_t1) (.int (Int32.ofNat 128))) := by decide +kernel
theorem tw_fl2a : tw_flat[136]? = some (Cond.arrayOf tw_t2 .byte) := by decide +kernel
theorem tw_fl2b : tw_flat[137]? = some (Cond.eq (.length tw_t2) (.int (Int32.ofNat 112))) := by decide +kernel
/-- the tables lie as the Statement says -/
theorem tw_TB_start {s : State} {b : Nat} {A : Nat → Prop} (hts : ∀ w ∈ lw_tbl, w.before #[Value.ref b] s = true) (hgv : (Jvm.Cond.and given_1 narrow_1).before #[Value.ref b] s = true) (hA : ∀ a : Nat, a < s.heap.size → ¬ A a) : tw_TB A s s.heap := by
  have hs := flat_of_before _ hgv
  obtain ⟨t1, e1, T1⟩ := va_Tof (tm := tw_t1) (ty := .short) (N := 128) (f := fun j => .int (tw_FU j)) (A := A) (by decide) (hs _ (List.mem_of_getElem? tw_fl1a)) (va_eqt (hs _ (List.mem_of_getElem? tw_fl1b))) (fun j hj => va_eqt (hs _ (List.mem_of_getElem? (tw_fl1 j hj)))) hA
  obtain ⟨t2, e2, T2⟩ := va_Tof (tm := tw_t2) (ty := .byte) (N := 112) (f := fun j => .int (tw_TR j)) (A := A) (by decide) (hs _ (List.mem_of_getElem? tw_fl2a)) (va_eqt (hs _ (List.mem_of_getElem? tw_fl2b))) (fun j hj => va_eqt (hs _ (List.mem_of_getElem? (tw_fl2 j hj)))) hA
  exact ⟨t1, t2, va_Zref (hts _ q58) (hts _ (lw_all_tbl q2)) e1 hA, T1, va_Zref (hts _ q60) (hts _ (lw_all_tbl q2)) e2 hA, T2⟩
/-- a method of the law is called: it answers true, nothing old has changed -/
theorem c_law {p : Program} {l : Launch} {e : Env} {R : Room} {s : State} {m : MethodId} {args : Array Value} {below : List Frame} {meth : Method} {c : Code} {H : Heap} {locs : List Loc} {cells slots : Nat} {Q : State → Prop} {cc : ByteArray} {pc nL mc ms idx : Nat} {ls : Array Slot} {dC : Nat → ClassId} {dI : Nat → Nat → Nat} {b0 L : Nat} {xs : Nat → Int32} {y : MethodName} {bytes : ByteArray} {rm : Room}
  (hc : p.tables.exec = Jvm.exec ∧ c.code = cc ∧ c.maxLocals = nL ∧ s.vm.findClass RX0 = some m.cls ∧ ∀ w ∈ lw_all, w.before args s = true)
  (hM : Met l y (ws_ y bytes 9 (some .boolean)) rm (va_Pc [.ref b0] (tw_PreL dC dI b0 L xs H.size)) (tw_QL (fun q => H.size ≤ q)) mc ms (fun q => H.size ≤ q))
  (cw : CallB R s args RX0 idx y bytes 9 (some .boolean) (ws_ y bytes 9 (some .boolean)) rm mc ms 1 ∧ (Cond.static y).before args s = true)
  (hX : va_X b0 L xs s s.heap) (hbl : b0 < s.heap.size) (hK0 : va_K (dC, dI) vwCl [] s) (hT : tw_TB (fun q => s.heap.size ≤ q) s s.heap) (hS : va_S (fun q => s.heap.size ≤ q) s.heap H locs) (hls : ls.size = nL) (hf : cells + mc ≤ R.cells ∧ slots + ms ≤ R.slots) (d : decode cc pc = .ok (.invokestatic idx, 3))
  (kk : ∀ (H1 : Heap) (locs1 : List Loc), va_S (fun q => s.heap.size ≤ q) s.heap H1 locs1 → W p l e R s m args below meth c H1 locs1 (cells + mc) (slots + ms) Q (F0 m (pc + 3) ls [.int (nI 1)])) : W p l e R s m args below meth c H locs cells slots Q (F0 m pc ls [.ref b0]) := by
  have hn : ∀ q : Nat, q < s.heap.size → ¬ s.heap.size ≤ q := fun q h => Nat.not_le.mpr h
  have hX1 : va_X b0 L xs s H := hX.kept (hS.2.1 b0 hbl (hn b0 hbl))
  have hpre : PreS s H (va_Pc [.ref b0] (tw_PreL dC dI b0 L xs H.size)) [.ref b0] := by
    refine ⟨fun a U g mk q => ?_, fun U hU hW => ⟨rfl, ?_⟩⟩
    · obtain ⟨q0, q1, q2, q3, q4, q5⟩ := q
      exact ⟨q0, q1, va_X.moved (u := U) (U := U.calling g mk a) (Vm.Alike.refl U.vm) q2, q3, va_K.moved (u := U) (U := U.calling g mk a) (Vm.Alike.refl U.vm) q4, tw_TB.moved (u := U) (U := U.calling g mk a) q5 (Vm.Alike.refl U.vm)⟩
    · refine ⟨by rw [hU], by rw [hU]; exact hX1.moved hW.alike, Nat.lt_of_lt_of_le hbl hS.1, va_K.moved hW.alike hK0, ?_⟩
      rw [hU]
      exact ((hT.kept hS.2.1).narrow (fun q h => Nat.le_trans hS.1 h)).moved hW.alike
  refine va_calli (va_runS (As := [.ref b0]) (rest := []) hc hM cw hpre rfl rfl hls rfl (lv_room (Nat.le_of_ble_eq_true rfl)) d hf) hS (fun q hq h => absurd h (Nat.not_le.mpr hq)) (fun q h => Nat.le_trans hS.1 h) (fun r u T H1 locs1 ht hvm hr hB hz hk1 hS1 => ?_)
  have hr : r = nI 1 := hr
  subst hr
  exact kk H1 locs1 hS1
end
section
set_option maxRecDepth 100000
/-! THE CLAIM OUT OF ONE WALK OF THE LAW'S BODY. Your part is whole_start (and what it stands on); all else here is the same for every law, but numbers. -/
def R_law : String := "WireLettersLaw"
def lw_P (b : Addr) (xs : List Int32) (args : Array Value) (s : State) : Prop := args = #[.ref b] ∧ s.IntsAt b xs ∧ xs.length ≤ 40 ∧ (Jvm.Cond.and given_1 narrow_1).before args s = true
def lw_Q (_ : Array Value) (s : State) (o : Outcome) (t : State) : Prop := o = .returned (some (.int 1)) ∧ Framed s o t [] 1200000 5502250
def lw_Z (below : List Frame) (a : Array Value) (s : State) : State → Prop := fun t => ∃ o, t.status = .running ∧ Ended t below o ∧ lw_Q a s o t
/-- the law's own end, with 1 on the stack, nothing written that was there before, its room as the claim has it -/
theorem lw_ret {p : Program} {l : Launch} {e : Env} {s : State} {m : MethodId} {below : List Frame} {meth : Method} {c : Code} {b : Nat} (hx : p.tables.exec = Jvm.exec) (hb : c.code = code) (hr : meth.sig.returnType = ret) (hlocks : meth.locks = false) {pc : Nat} {H : Heap} {ls : Array Slot} (hdg : decode code pc = .ok (.ireturn, 1)) : W p l e room_1 s m #[Value.ref b] below meth c H [] 1200000 5502250 (lw_Z below #[Value.ref b] s) (F0 m pc ls [.int 1]) := by
  intro T hT X
  obtain ⟨fs, hret, hrun, hended, hW, hframe⟩ := X.leave (v := some (.int 1)) (hlocks := hlocks) (fun h => by rw [hr] at h; cases h)
  have hmeth' : T.vm.method? m = some meth := X.method'
  refine ⟨T.setFrames fs, ?_, .returned (some (.int 1)), hrun, hended, rfl, ⟨_, rfl⟩, hW, hframe⟩
  jvm_step X.here [X.here.top, hx, hb, hdg, hmeth', hr, ret, narrow_b1]
  (try refine ⟨rfl, ?_⟩); (try refine ⟨rfl, ?_⟩)
  first | (intro acts; rw [hret _ acts rfl rfl rfl]) | rw [hret _ _ rfl rfl rfl]
  exact Steps.refl _
/-- what holds at the law's entry: the machine, the code, the tables' words (any of lw_tbl by 'hts w (by decide +kernel)'), the script of L ints xs at the cell b, what the Statement gives of the start (any of its parts by flat_of_before) -/
def lw_At (p : Program) (s : State) (m : MethodId) (meth : Method) (c : Code) (b L : Nat) (xs : Nat → Int32) : Prop :=
  p.tables.exec = Jvm.exec ∧ c.code = code ∧ meth.sig.returnType = ret ∧ c.maxLocals = 1 ∧ s.vm.findClass R_law = some m.cls ∧ (∀ w ∈ lw_tbl, w.before #[Value.ref b] s = true) ∧ va_X b L xs s s.heap ∧ b < s.heap.size ∧ meth.locks = false ∧ (Jvm.Cond.and given_1 narrow_1).before #[Value.ref b] s = true
set_option maxHeartbeats 4000000 in
/-- the law's body: its three parts answer true -/
theorem whole_start {p : Program} {e : Env} {s : State} {m : MethodId} {below : List Frame} {meth : Method} {c : Code} (l : Launch) (hflags : l.flags = flags0) {b L : Nat} {xs : Nat → Int32} (hL : L ≤ 40) (C0 : lw_At p s m meth c b L xs) : W p l e room_1 s m #[Value.ref b] below meth c s.heap [] 0 0 (lw_Z below #[Value.ref b] s) (entryFrame m ([Value.ref b] : List Value).toArray 1) := by
  obtain ⟨hx, hb, hr, hml, hown, hts0, hX, hbl, hlocks, hgv⟩ := C0
  have hts : ∀ w ∈ lw_all, w.before #[Value.ref b] s = true := fun w h => hts0 w (lw_all_tbl h)
  obtain ⟨cC, iS, hKn⟩ := u_known (C := RX1) (T := TX1) (N := 4) (n := 4) hts0 (fun w h => lw_all_tbl (in_X1 w h)) (hts0 _ (lw_all_tbl q7))
  have hK0 : va_K (fun _ => cC, fun _ => iS) vwCl [] s := by
    refine ⟨fun k q hq => ?_, fun k q hq => absurd hq (by simp)⟩
    match k, hq with
    | 0, hq => cases hq; exact hKn
    | k + 1, hq => simp [vwCl] at hq
  have hT : tw_TB (fun q => s.heap.size ≤ q) s s.heap := tw_TB_start hts0 hgv (fun a h => Nat.not_le.mpr h)
  have hS : va_S (fun q => s.heap.size ≤ q) s.heap s.heap [] := va_S.rf
  have hc : p.tables.exec = Jvm.exec ∧ c.code = cL_law ∧ c.maxLocals = 1 ∧ s.vm.findClass RX0 = some m.cls ∧ ∀ w ∈ lw_all, w.before #[Value.ref b] s = true := ⟨hx, hb, hml, hown, hts⟩
  have hl := lv_entry ([.ref b]) (n := 1) (Nat.le_of_ble_eq_true rfl)
  rw [lg_entry_eq]
  generalize (lg_sl ([.ref b]) ++ List.replicate (1 - (lg_sl ([.ref b])).length) Slot.unset).toArray = ls at hl ⊢
  have hl : lv_has ls 1 [(0, .ref b)] := hl
  refine lv_aload_n hx hb dL_law_0 rfl (lv_at hl 0 rfl) ?_
  refine c_law (dC := fun _ => cC) (dI := fun _ => iS) hc (met_letters l _ _ b L s.heap.size xs hL) (va_cwS 1 hts (lw_S q89 q90 q0 q91) rfl rfl rfl (by decide +kernel) ⟨Nat.le_of_ble_eq_true rfl, Nat.le_of_ble_eq_true rfl⟩) hX hbl hK0 hT hS hl.1 ⟨Nat.le_of_ble_eq_true rfl, Nat.le_of_ble_eq_true rfl⟩ dL_law_1 (fun H locs hS => ?_)
  refine lv_if_eq (tgt := 25) hx hb dL_law_4 (by decide) (fun c9 => absurd c9 (by decide)) (fun _ => ?_)
  refine lv_aload_n hx hb dL_law_7 rfl (lv_at hl 0 rfl) ?_
  refine c_law (dC := fun _ => cC) (dI := fun _ => iS) hc (met_anyBytes l _ _ b L H.size xs hL) (va_cwS 1 hts (lw_S q3 q4 q0 q5) rfl rfl rfl (by decide +kernel) ⟨Nat.le_of_ble_eq_true rfl, Nat.le_of_ble_eq_true rfl⟩) hX hbl hK0 hT hS hl.1 ⟨Nat.le_of_ble_eq_true rfl, Nat.le_of_ble_eq_true rfl⟩ dL_law_8 (fun H locs hS => ?_)
  refine lv_if_eq (tgt := 25) hx hb dL_law_11 (by decide) (fun c9 => absurd c9 (by decide)) (fun _ => ?_)
  refine lv_aload_n hx hb dL_law_14 rfl (lv_at hl 0 rfl) ?_
  refine c_law (dC := fun _ => cC) (dI := fun _ => iS) hc (met_noLetters l _ _ b L H.size xs hL) (va_cwS 1 hts (lw_S q68 q69 q0 q70) rfl rfl rfl (by decide +kernel) ⟨Nat.le_of_ble_eq_true rfl, Nat.le_of_ble_eq_true rfl⟩) hX hbl hK0 hT hS hl.1 ⟨Nat.le_of_ble_eq_true rfl, Nat.le_of_ble_eq_true rfl⟩ dL_law_15 (fun H locs hS => ?_)
  refine lv_if_eq (tgt := 25) hx hb dL_law_18 (by decide) (fun c9 => absurd c9 (by decide)) (fun _ => ?_)
  refine lv_iconst (v := 1) hx hb dL_law_21 (by decide) ?_
  refine lv_goto (tgt := 26) hx hb dL_law_22 (by decide) ?_
  refine va_forget hS.2.2 ?_
  refine W.widen (k := 1200000) (n := 5502250) (Nat.le_of_ble_eq_true rfl) (Nat.le_of_ble_eq_true rfl) ?_
  exact lw_ret hx hb hr hlocks dL_law_26
set_option maxHeartbeats 4000000 in
theorem lw_walk (l : Launch) (hflags : l.flags = flags0) (b : Addr) (xs : List Int32) : MetFree l x (headSpec (Jvm.Cond.code x code maxLocals ret :: tables_1) room_1) (lw_P b xs) (fun _ _ _ _ _ => True) lw_Q := by
  refine MetFree.of_bodyS (code := code) (maxLocals := maxLocals) (ret := ret) (by decide) ?_ ?_
  · intro args s m h hn
    obtain ⟨meth, c, h1, h2, h3, h4, h5, h6, -, -⟩ := Cond.code_spec hn (atoms_spec (ws := Jvm.Cond.code x code maxLocals ret :: tables_1) h _ List.mem_cons_self)
    exact ⟨meth, c, h1, h2, h3, h4, h5, h6⟩
  · intro p e s m args below meth c s₁ B hml0 hP _
    obtain ⟨rfl, hx, hbd, hgv⟩ := hP
    obtain ⟨scr, harrAt, hlist, hof, hsmall⟩ := hx
    obtain ⟨hcb, hkn, -, -⟩ := State.arrayAt?_spec harrAt
    have hown : s.vm.findClass R_law = some m.cls := findClass_of_methodNamed B.named
    have hts0 : ∀ c ∈ (Jvm.Cond.code x code maxLocals ret :: tables_1), c.before #[Value.ref b] s = true := atoms_spec (ws := Jvm.Cond.code x code maxLocals ret :: tables_1) B.pre
    have hts : ∀ w ∈ lw_tbl, w.before #[Value.ref b] s = true := k2_hts_sels lw_privs (fun w hw => hts0 w (List.mem_cons_of_mem _ hw)) lw_privs_ok
    have hml : c.maxLocals = 1 := B.maxLocals_eq (hts0 _ List.mem_cons_self)
    have X₀ : Stand p l e room_1 s m #[Value.ref b] below meth c s₁ [] 0 0 := Stand.of_body B
    have hh0 : s₁.heap = s.heap := by rw [B.state]; rfl
    have hsz : scr.slots.size = xs.length := by rw [← Array.length_toList, hlist, List.length_map]
    have hval : ∀ j : Nat, j < xs.length → scr.slots[j]? = some (.int (xs.getD j 0)) := fun j hj => by
      rw [← Array.getElem?_toList, hlist]
      simp [hj]
    have hbl : b < s.heap.size := (Array.getElem?_eq_some_iff.mp hcb).1
    have hX : va_X b xs.length (fun j => xs.getD j 0) s s.heap := ⟨scr, hcb, hof, hkn, hsz, hval⟩
    have K : W p l e room_1 s m #[Value.ref b] below meth c s₁.heap [] 0 0 (lw_Z below #[Value.ref b] s) (entryFrame m ([Value.ref b] : List Value).toArray 1) := by
      rw [hh0]
      exact whole_start l hflags hbd ⟨B.exec, B.bytes, B.returns, hml, hown, hts, hX, hbl, B.notSynchronized, hgv⟩
    obtain ⟨t, a1, o, b1, b2, b3⟩ := K s₁ rfl X₀
    exact ⟨t, o, a1, b1, b2, b3⟩
theorem lw_pre_spec {args : Array Value} {s : State} (h : (Jvm.Cond.and given_1 narrow_1).before args s = true) (hr : rest_1_c.before args s = true) : ∃ (b : Addr) (xs : List Int32), lw_P b xs args s := by
  have hs := flat_of_before _ h
  have hq := flat_of_before _ hr
  have hc : (Cond.count 1).before args s = true := hs _ (by decide +kernel)
  have harr : (Cond.arrayOf (.arg 0) .int).before args s = true := hs _ (by decide +kernel)
  have hle : (Cond.le (.length (.arg 0)) (.int 40)).before args s = true := hs _ (by decide +kernel)
  have hlen : (Cond.isInt (.length (.arg 0))).before args s = true := hq _ (by decide +kernel)
  have hall : (Cond.all (.arg 0) (.isInt (.elem (.arg 0) (.index 0)))).before args s = true := hq _ (by decide +kernel)
  obtain ⟨b, xs, hb, hx⟩ := State.ints_of_pre rfl harr hlen hall
  have hsm : xs.length < 2 ^ 31 := hx.choose_spec.2.2.2
  have hev : (Term.length (.arg 0)).eval args s none [] s = some (.int xs.length.toInt32) := hx.length_eval hb
  have hv := Cond.le_ints hev (show (Term.int 40).eval args s none [] s = some (.int 40) from rfl)
  have hd : xs.length.toInt32 ≤ 40 := by
    simpa [Cond.before, Cond.holds, hv] using hle
  have hN : xs.length ≤ 40 := (Int32.ofNat_le_ofNat hsm (by decide)).mp (show Int32.ofNat xs.length ≤ Int32.ofNat 40 from hd)
  exact ⟨b, xs, Cond.one_arg hc (show args[0]? = some (.ref b) from hb), hx, hN, h⟩
theorem lw_comes (l : Launch) (hflags : l.flags = flags0) : Comes l x (Jvm.Cond.code x code maxLocals ret :: tables_1) room_1 (fun tb e args s => Calls_1 tb e args s ∧ rest_1 tb e args s ∧ Pre_1 tb e args s)
    (fun _ _ args s o t => lw_Q args s o t) := by
  intro p e ha hc hk s m args below hf hfit hheap happ hpre
  obtain ⟨b, xs, hP⟩ := lw_pre_spec hpre.2.2 hpre.2.1
  obtain ⟨k, o, h1, h2, h3, hQ⟩ := lw_walk l hflags b xs p e ha hc hk s m args below hf ((Spec.applies_iff_loose hf).mp happ).1 hP trivial
  exact ⟨k, o, h1, h2, h3, hQ⟩
theorem lw_frame {s t : State} {o : Outcome} {args : Array Value} (h : Framed s o t [] 1200000 5502250) :
    Framed s o t (fieldLocs frame_1_writes args s ++ arrayLocs frame_1_arrays args s ++ staticLocs frame_1_statics s) 1200000 5502250 := h
theorem lw_limb (L : Cond) (hL : ∀ (args : Array Value) (s t : State), L.after args s (.returned (some (.int 1))) t = true) :
    ArmFor flags0 classFile x code maxLocals ret World_1 tables_1 room_1 Calls_1 rest_1 Pre_1
      (fun tb e a s o t => postC L tb e a s o t ∧ Framed s o t (fieldLocs frame_1_writes a s ++ arrayLocs frame_1_arrays a s ++ staticLocs frame_1_statics s) 1200000 5502250) := by
  intro l hflags _ _ p e ha hc hk s m args below hf hfit hheap happ hpre
  obtain ⟨k, o, h1, h2, h3, rfl, hF⟩ := lw_comes l hflags p e ha hc hk s m args below hf hfit hheap happ hpre
  exact ⟨k, _, h1, h2, h3, hL args s _, lw_frame hF⟩
theorem i_vc : Claimed_1_1 ∧ Claimed_1_2 := ⟨lw_limb limb_1_1 (fun args s t => by simp [limb_1_1, Cond.after, Cond.holds, Cond.value]), lw_limb limb_1_2 (fun args s t => Cond.after_iff.mpr (by
  first | (rw [show limb_1_2 = Cond.eq .result (.int 1) from rfl, Cond.eq_ints (x := 1) (y := 1) rfl rfl]; simp; done) | (simp [limb_1_2, Cond.value, Term.eval]; done)))⟩
end
