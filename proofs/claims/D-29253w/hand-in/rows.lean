section
-- ===== PART A: goes FIRST, ahead of the names: the tables' words, and 'selects' of the private methods out of them =====
/-- a private method of a class that the tables say can be made, by its rows of tables_1 -/
def lw_okq (q : MethodName × Nat) : Prop := (q.1.cls ≠ "java/lang/invoke/MethodHandle" ∧ q.1.cls ≠ "java/lang/invoke/VarHandle") ∧ Cond.instantiable q.1.cls q.2 ∈ tables_1 ∧ Cond.privateMethod q.1 ∈ tables_1 ∧ Cond.instanceMethod q.1 ∈ tables_1
def lw_privs : List (MethodName × Nat) := []
def lw_tbl : List Cond := k2_sels lw_privs ++ tables_1
theorem lw_privs_ok : ∀ q ∈ lw_privs, lw_okq q := fun _ h => absurd h List.not_mem_nil
-- ===== ONE list of words for every method: the tables' words that hold all through a run =====
def lw_all : List Cond := lw_tbl.filter goodWord
/-- a word of the tables by its place: claim/WORDS.tsv -/
theorem lw_w {w : Cond} (i : Nat) (h : lw_tbl[i]? = some w) (g : goodWord w = true) : w ∈ lw_all := List.mem_filter.mpr ⟨List.mem_of_getElem? h, g⟩
theorem lw_all_tbl {w : Cond} (h : w ∈ lw_all) : w ∈ lw_tbl := (List.mem_filter.mp h).1
theorem lw_self : GoodIn lw_all lw_all := fun w h => ⟨h, good_of_word (List.mem_filter.mp h).2⟩
/-- a class's field words, by their places -/
theorem lw_in (ws : List Cond) (ps : List Nat) (hp : ws = ps.filterMap (fun i => lw_tbl[i]?)) (hg : ws.all goodWord = true) : ∀ w ∈ ws, w ∈ lw_all := by
  intro w h
  have h1 := List.all_eq_true.mp hg w h
  rw [hp] at h
  obtain ⟨i, -, hi⟩ := List.mem_filterMap.mp h
  exact lw_w i hi h1
/-- the words of a contract for the method y with code b, L locals, answer r -/
abbrev ws_ (y : MethodName) (b : ByteArray) (L : Nat) (r : Option FieldType) : List Cond := Cond.code y b L r :: lw_all
theorem lw_meth {y : MethodName} {b : ByteArray} {L : Nat} {r : Option FieldType} (h : Cond.code y b L r ∈ lw_all) : GoodIn lw_all (ws_ y b L r) := by
  intro w hw
  rcases List.mem_cons.mp hw with e | e
  · rw [e]
    exact lw_self _ h
  · exact lw_self _ e
theorem lw_app {a c : List Cond} (ha : ∀ w ∈ a, w ∈ lw_all) (hc : GoodIn lw_all c) : GoodIn lw_all (a ++ c) := by
  intro w hw
  rcases List.mem_append.mp hw with e | e
  · exact lw_self w (ha w e)
  · exact hc w e
/-- what a call through an object asks: cwV n hts (lw_V ..) -/
theorem lw_V {own : String} {idx : Nat} {C : String} {y : MethodName} {b : ByteArray} {L : Nat} {r : Option FieldType} (h1 : Cond.methodLink own idx y ∈ lw_all) (h2 : Cond.instanceMethod y ∈ lw_all) (h3 : Cond.selects C y y ∈ lw_all) (h4 : Cond.initialized C ∈ lw_all) (h5 : Cond.code y b L r ∈ lw_all) : GoodIn lw_all (wsV own idx C y (ws_ y b L r)) := by
  refine lw_app ?_ (lw_meth h5)
  intro w hw
  simp only [List.mem_cons, List.not_mem_nil, or_false] at hw
  rcases hw with e | e | e | e
  · rw [e]; exact h1
  · rw [e]; exact h2
  · rw [e]; exact h3
  · rw [e]; exact h4
/-- what a static call asks: va_cwS n hts (lw_S ..) -/
theorem lw_S {own : String} {idx : Nat} {y : MethodName} {b : ByteArray} {L : Nat} {r : Option FieldType} (h1 : Cond.methodLink own idx y ∈ lw_all) (h2 : Cond.static y ∈ lw_all) (h3 : Cond.initialized y.cls ∈ lw_all) (h4 : Cond.code y b L r ∈ lw_all) : GoodIn lw_all (va_wsS own idx y (ws_ y b L r)) := by
  refine lw_app ?_ (lw_meth h4)
  intro w hw
  simp only [List.mem_cons, List.not_mem_nil, or_false] at hw
  rcases hw with e | e | e
  · rw [e]; exact h1
  · rw [e]; exact h2
  · rw [e]; exact h3
/-- the words of a contract for a method WITH HANDLERS (hh: its table) -/
abbrev wsW_ (y : MethodName) (b : ByteArray) (L : Nat) (r : Option FieldType) (hh : List (Nat × Nat × Nat × Nat)) : List Cond := Cond.codeWith y b L r hh :: lw_all
theorem lw_methW {y : MethodName} {b : ByteArray} {L : Nat} {r : Option FieldType} {hh : List (Nat × Nat × Nat × Nat)} (h : Cond.codeWith y b L r hh ∈ lw_all) : GoodIn lw_all (wsW_ y b L r hh) := by
  intro w hw
  rcases List.mem_cons.mp hw with e | e
  · rw [e]
    exact lw_self _ h
  · exact lw_self _ e
/-- any list of words by their places (lw_in), good -/
theorem lw_good {ws : List Cond} (h : ∀ w ∈ ws, w ∈ lw_all) : GoodIn lw_all ws := fun w hw => lw_self w (h w hw)
/-- what a call of a method with handlers asks: vx_cwVW n hts (lw_VW ..), vx_cwSW n hts (lw_SW ..) -/
theorem lw_VW {own : String} {idx : Nat} {C : String} {y : MethodName} {b : ByteArray} {L : Nat} {r : Option FieldType} {hh : List (Nat × Nat × Nat × Nat)} (h1 : Cond.methodLink own idx y ∈ lw_all) (h2 : Cond.instanceMethod y ∈ lw_all) (h3 : Cond.selects C y y ∈ lw_all) (h4 : Cond.initialized C ∈ lw_all) (h5 : Cond.codeWith y b L r hh ∈ lw_all) : GoodIn lw_all (wsV own idx C y (wsW_ y b L r hh)) := by
  refine lw_app ?_ (lw_methW h5)
  intro w hw
  simp only [List.mem_cons, List.not_mem_nil, or_false] at hw
  rcases hw with e | e | e | e
  · rw [e]; exact h1
  · rw [e]; exact h2
  · rw [e]; exact h3
  · rw [e]; exact h4
theorem lw_SW {own : String} {idx : Nat} {y : MethodName} {b : ByteArray} {L : Nat} {r : Option FieldType} {hh : List (Nat × Nat × Nat × Nat)} (h1 : Cond.methodLink own idx y ∈ lw_all) (h2 : Cond.static y ∈ lw_all) (h3 : Cond.initialized y.cls ∈ lw_all) (h4 : Cond.codeWith y b L r hh ∈ lw_all) : GoodIn lw_all (va_wsS own idx y (wsW_ y b L r hh)) := by
  refine lw_app ?_ (lw_methW h4)
  intro w hw
  simp only [List.mem_cons, List.not_mem_nil, or_false] at hw
  rcases hw with e | e | e
  · rw [e]; exact h1
  · rw [e]; exact h2
  · rw [e]; exact h3
/-- a word by its place in its run of the tables -/
theorem lw_at {r : List Cond} (hr : ∀ w ∈ r, w ∈ lw_tbl) {w : Cond} (i : Nat) (h : r[i]? = some w) : w ∈ lw_tbl := hr w (List.mem_of_getElem? h)
theorem lw_g {w : Cond} (h : w ∈ lw_tbl) (g : goodWord w = true) : w ∈ lw_all := List.mem_filter.mpr ⟨h, g⟩
theorem lw_ms : ∀ w ∈ k2_sels lw_privs, w ∈ lw_tbl := fun w h => show w ∈ k2_sels lw_privs ++ tables_1 from List.mem_append_left _ h
theorem lw_m0 : ∀ w ∈ tables_1, w ∈ lw_tbl := fun w h => show w ∈ k2_sels lw_privs ++ tables_1 from List.mem_append_right (k2_sels lw_privs) h
/-! DECODE ROWS BY BYTES: one lemma an opcode; a method's code is cut into short pieces once, and a row reads its own piece alone. -/
set_option maxRecDepth 100000
/-- the code has just these bytes from pc on -/
def DkAt (code : ByteArray) (pc : Nat) (bs : List UInt8) : Prop := ∀ (j : Nat) (b : UInt8), bs[j]? = some b → code.data.toList[pc + j]? = some b
/-- the piece W has the bytes bs from its place j on -/
def dkIn (W : List UInt8) (j : Nat) (bs : List UInt8) : Bool := decide ((W.drop j).take bs.length = bs)
theorem dk_seg {l W T : List UInt8} {o o2 : Nat} (h : l.drop o = W ++ T) (n : Nat) (hn : W.length = n) (ho : o + n = o2) : l.drop o2 = T := by
  subst ho
  rw [← List.drop_drop, h, List.drop_left' hn]
theorem dk_at {code : ByteArray} {W T bs : List UInt8} {o pc : Nat} (h : code.data.toList.drop o = W ++ T) (j : Nat) (hp : o + j = pc) (hw : dkIn W j bs = true) : DkAt code pc bs := by
  subst hp
  intro i b e
  have h1 := of_decide_eq_true hw
  have h2 : i < bs.length := (List.getElem?_eq_some_iff.mp e).1
  have h3 : W[j + i]? = some b := by
    rw [← h1, List.getElem?_take, if_pos h2, List.getElem?_drop] at e
    exact e
  have h4 : j + i < W.length := (List.getElem?_eq_some_iff.mp h3).1
  have h5 : (code.data.toList.drop o)[j + i]? = some b := by
    rw [h, List.getElem?_append_left h4]
    exact h3
  rw [List.getElem?_drop, ← Nat.add_assoc] at h5
  exact h5
theorem dk_u1 {A : ByteArray} {p : Nat} {b : UInt8} (h : A.data.toList[p]? = some b) : (Reader.u1 : Reader DecodeError Nat) A p = .ok (b.toNat, p + 1) := by
  obtain ⟨h1, h2⟩ := List.getElem?_eq_some_iff.mp h
  have h3 : p < A.size := by simpa using h1
  have h4 : A[p]'h3 = b := h2
  have e : (Reader.u1 : Reader DecodeError Nat) A p = (if h : p < A.size then .ok (A[p].toNat, p + 1) else .error (HasTruncated.truncated p)) := by
    show (do if h : p < A.size then do set (p + 1); Pure.pure A[p].toNat else MonadExcept.throw (HasTruncated.truncated p) : Reader DecodeError Nat) A p = _
    by_cases hi : p < A.size
    · rw [dif_pos hi, dif_pos hi]; rfl
    · rw [dif_neg hi, dif_neg hi]; rfl
  rw [e, dif_pos h3, h4]
theorem dk_bind {α β : Type} {r : Reader DecodeError α} {f : α → Reader DecodeError β} {A : ByteArray} {p s : Nat} {a : α} (h : r A p = .ok (a, s)) : (r >>= f) A p = f a A s := by
  show (do let (a, s) ← r A p; f a A s : Except DecodeError (β × Nat)) = _
  rw [h]
  rfl
theorem dk_map {α β : Type} {r : Reader DecodeError α} {g : α → β} {A : ByteArray} {p s : Nat} {a : α} (h : r A p = .ok (a, s)) : (g <$> r) A p = .ok (g a, s) := by
  show (do let (a, s) ← r A p; .ok (g a, s) : Except DecodeError (β × Nat)) = _
  rw [h]
  rfl
theorem dk_u2 {A : ByteArray} {p : Nat} {a b : UInt8} (h : A.data.toList[p]? = some a) (h2 : A.data.toList[p + 1]? = some b) : (Reader.u2 : Reader DecodeError Nat) A p = .ok (a.toNat * 256 + b.toNat, p + 2) := by
  show (Reader.u1 >>= fun hi => Reader.u1 >>= fun lo => Pure.pure (hi * 256 + lo) : Reader DecodeError Nat) A p = _
  rw [dk_bind (dk_u1 h), dk_bind (dk_u1 h2)]
  rfl
theorem dk_of {code : ByteArray} {pc n : Nat} {i : Instr} (h : Decoder.instr pc code pc = .ok (i, pc + n)) : decode code pc = .ok (i, n) := by
  have e : decode code pc = (match Decoder.instr pc code pc with | .error x => .error x | .ok (j, s) => .ok (j, s - pc)) := by
    show (do let (j, s) ← Decoder.instr pc code pc; Pure.pure (j, s - pc) : Except DecodeError (Instr × Nat)) = _
    cases Decoder.instr pc code pc <;> rfl
  rw [e, h]
  show Except.ok (i, pc + n - pc) = _
  rw [Nat.add_sub_cancel_left]
theorem dk_3 {code : ByteArray} {pc : Nat} (h : DkAt code pc [3]) : decode code pc = .ok (.iconst 0, 1) := dk_of ((dk_bind (dk_u1 (h 0 _ rfl))).trans rfl)
theorem dk_4 {code : ByteArray} {pc : Nat} (h : DkAt code pc [4]) : decode code pc = .ok (.iconst 1, 1) := dk_of ((dk_bind (dk_u1 (h 0 _ rfl))).trans rfl)
theorem dk_5 {code : ByteArray} {pc : Nat} (h : DkAt code pc [5]) : decode code pc = .ok (.iconst 2, 1) := dk_of ((dk_bind (dk_u1 (h 0 _ rfl))).trans rfl)
theorem dk_6 {code : ByteArray} {pc : Nat} (h : DkAt code pc [6]) : decode code pc = .ok (.iconst 3, 1) := dk_of ((dk_bind (dk_u1 (h 0 _ rfl))).trans rfl)
theorem dk_9 {code : ByteArray} {pc : Nat} (h : DkAt code pc [9]) : decode code pc = .ok (.lconst 0, 1) := dk_of ((dk_bind (dk_u1 (h 0 _ rfl))).trans rfl)
theorem dk_16 {code : ByteArray} {pc : Nat} (a : UInt8) (h : DkAt code pc [16, a]) : decode code pc = .ok (.bipush (Reader.signed 8 a.toNat), 2) := dk_of ((dk_bind (dk_u1 (h 0 _ rfl))).trans ((dk_bind (dk_map (dk_u1 (h 1 _ rfl)))).trans rfl))
theorem dk_17 {code : ByteArray} {pc : Nat} (a b : UInt8) (h : DkAt code pc [17, a, b]) : decode code pc = .ok (.sipush (Reader.signed 16 (a.toNat * 256 + b.toNat)), 3) := dk_of ((dk_bind (dk_u1 (h 0 _ rfl))).trans ((dk_bind (dk_map (dk_u2 (h 1 _ rfl) (h 2 _ rfl)))).trans rfl))
theorem dk_18 {code : ByteArray} {pc : Nat} (a : UInt8) (h : DkAt code pc [18, a]) : decode code pc = .ok (.ldc a.toNat, 2) := dk_of ((dk_bind (dk_u1 (h 0 _ rfl))).trans ((dk_bind (dk_u1 (h 1 _ rfl))).trans rfl))
theorem dk_20 {code : ByteArray} {pc : Nat} (a b : UInt8) (h : DkAt code pc [20, a, b]) : decode code pc = .ok (.ldc2_w (a.toNat * 256 + b.toNat), 3) := dk_of ((dk_bind (dk_u1 (h 0 _ rfl))).trans ((dk_bind (dk_u2 (h 1 _ rfl) (h 2 _ rfl))).trans rfl))
theorem dk_21 {code : ByteArray} {pc : Nat} (a : UInt8) (h : DkAt code pc [21, a]) : decode code pc = .ok (.iload a.toNat, 2) := dk_of ((dk_bind (dk_u1 (h 0 _ rfl))).trans ((dk_bind (dk_u1 (h 1 _ rfl))).trans rfl))
theorem dk_26 {code : ByteArray} {pc : Nat} (h : DkAt code pc [26]) : decode code pc = .ok (.iload_n 0, 1) := dk_of ((dk_bind (dk_u1 (h 0 _ rfl))).trans rfl)
theorem dk_27 {code : ByteArray} {pc : Nat} (h : DkAt code pc [27]) : decode code pc = .ok (.iload_n 1, 1) := dk_of ((dk_bind (dk_u1 (h 0 _ rfl))).trans rfl)
theorem dk_28 {code : ByteArray} {pc : Nat} (h : DkAt code pc [28]) : decode code pc = .ok (.iload_n 2, 1) := dk_of ((dk_bind (dk_u1 (h 0 _ rfl))).trans rfl)
theorem dk_29 {code : ByteArray} {pc : Nat} (h : DkAt code pc [29]) : decode code pc = .ok (.iload_n 3, 1) := dk_of ((dk_bind (dk_u1 (h 0 _ rfl))).trans rfl)
theorem dk_31 {code : ByteArray} {pc : Nat} (h : DkAt code pc [31]) : decode code pc = .ok (.lload_n 1, 1) := dk_of ((dk_bind (dk_u1 (h 0 _ rfl))).trans rfl)
theorem dk_33 {code : ByteArray} {pc : Nat} (h : DkAt code pc [33]) : decode code pc = .ok (.lload_n 3, 1) := dk_of ((dk_bind (dk_u1 (h 0 _ rfl))).trans rfl)
theorem dk_42 {code : ByteArray} {pc : Nat} (h : DkAt code pc [42]) : decode code pc = .ok (.aload_n 0, 1) := dk_of ((dk_bind (dk_u1 (h 0 _ rfl))).trans rfl)
theorem dk_43 {code : ByteArray} {pc : Nat} (h : DkAt code pc [43]) : decode code pc = .ok (.aload_n 1, 1) := dk_of ((dk_bind (dk_u1 (h 0 _ rfl))).trans rfl)
theorem dk_44 {code : ByteArray} {pc : Nat} (h : DkAt code pc [44]) : decode code pc = .ok (.aload_n 2, 1) := dk_of ((dk_bind (dk_u1 (h 0 _ rfl))).trans rfl)
theorem dk_46 {code : ByteArray} {pc : Nat} (h : DkAt code pc [46]) : decode code pc = .ok (.iaload, 1) := dk_of ((dk_bind (dk_u1 (h 0 _ rfl))).trans rfl)
theorem dk_54 {code : ByteArray} {pc : Nat} (a : UInt8) (h : DkAt code pc [54, a]) : decode code pc = .ok (.istore a.toNat, 2) := dk_of ((dk_bind (dk_u1 (h 0 _ rfl))).trans ((dk_bind (dk_u1 (h 1 _ rfl))).trans rfl))
theorem dk_61 {code : ByteArray} {pc : Nat} (h : DkAt code pc [61]) : decode code pc = .ok (.istore_n 2, 1) := dk_of ((dk_bind (dk_u1 (h 0 _ rfl))).trans rfl)
theorem dk_62 {code : ByteArray} {pc : Nat} (h : DkAt code pc [62]) : decode code pc = .ok (.istore_n 3, 1) := dk_of ((dk_bind (dk_u1 (h 0 _ rfl))).trans rfl)
theorem dk_64 {code : ByteArray} {pc : Nat} (h : DkAt code pc [64]) : decode code pc = .ok (.lstore_n 1, 1) := dk_of ((dk_bind (dk_u1 (h 0 _ rfl))).trans rfl)
theorem dk_66 {code : ByteArray} {pc : Nat} (h : DkAt code pc [66]) : decode code pc = .ok (.lstore_n 3, 1) := dk_of ((dk_bind (dk_u1 (h 0 _ rfl))).trans rfl)
theorem dk_76 {code : ByteArray} {pc : Nat} (h : DkAt code pc [76]) : decode code pc = .ok (.astore_n 1, 1) := dk_of ((dk_bind (dk_u1 (h 0 _ rfl))).trans rfl)
theorem dk_77 {code : ByteArray} {pc : Nat} (h : DkAt code pc [77]) : decode code pc = .ok (.astore_n 2, 1) := dk_of ((dk_bind (dk_u1 (h 0 _ rfl))).trans rfl)
theorem dk_79 {code : ByteArray} {pc : Nat} (h : DkAt code pc [79]) : decode code pc = .ok (.iastore, 1) := dk_of ((dk_bind (dk_u1 (h 0 _ rfl))).trans rfl)
theorem dk_89 {code : ByteArray} {pc : Nat} (h : DkAt code pc [89]) : decode code pc = .ok (.dup, 1) := dk_of ((dk_bind (dk_u1 (h 0 _ rfl))).trans rfl)
theorem dk_96 {code : ByteArray} {pc : Nat} (h : DkAt code pc [96]) : decode code pc = .ok (.iadd, 1) := dk_of ((dk_bind (dk_u1 (h 0 _ rfl))).trans rfl)
theorem dk_97 {code : ByteArray} {pc : Nat} (h : DkAt code pc [97]) : decode code pc = .ok (.ladd, 1) := dk_of ((dk_bind (dk_u1 (h 0 _ rfl))).trans rfl)
theorem dk_100 {code : ByteArray} {pc : Nat} (h : DkAt code pc [100]) : decode code pc = .ok (.isub, 1) := dk_of ((dk_bind (dk_u1 (h 0 _ rfl))).trans rfl)
theorem dk_104 {code : ByteArray} {pc : Nat} (h : DkAt code pc [104]) : decode code pc = .ok (.imul, 1) := dk_of ((dk_bind (dk_u1 (h 0 _ rfl))).trans rfl)
theorem dk_105 {code : ByteArray} {pc : Nat} (h : DkAt code pc [105]) : decode code pc = .ok (.lmul, 1) := dk_of ((dk_bind (dk_u1 (h 0 _ rfl))).trans rfl)
theorem dk_112 {code : ByteArray} {pc : Nat} (h : DkAt code pc [112]) : decode code pc = .ok (.irem, 1) := dk_of ((dk_bind (dk_u1 (h 0 _ rfl))).trans rfl)
theorem dk_116 {code : ByteArray} {pc : Nat} (h : DkAt code pc [116]) : decode code pc = .ok (.ineg, 1) := dk_of ((dk_bind (dk_u1 (h 0 _ rfl))).trans rfl)
theorem dk_122 {code : ByteArray} {pc : Nat} (h : DkAt code pc [122]) : decode code pc = .ok (.ishr, 1) := dk_of ((dk_bind (dk_u1 (h 0 _ rfl))).trans rfl)
theorem dk_124 {code : ByteArray} {pc : Nat} (h : DkAt code pc [124]) : decode code pc = .ok (.iushr, 1) := dk_of ((dk_bind (dk_u1 (h 0 _ rfl))).trans rfl)
theorem dk_126 {code : ByteArray} {pc : Nat} (h : DkAt code pc [126]) : decode code pc = .ok (.iand, 1) := dk_of ((dk_bind (dk_u1 (h 0 _ rfl))).trans rfl)
theorem dk_130 {code : ByteArray} {pc : Nat} (h : DkAt code pc [130]) : decode code pc = .ok (.ixor, 1) := dk_of ((dk_bind (dk_u1 (h 0 _ rfl))).trans rfl)
theorem dk_132 {code : ByteArray} {pc : Nat} (a b : UInt8) (h : DkAt code pc [132, a, b]) : decode code pc = .ok (.iinc a.toNat (Reader.signed 8 b.toNat), 3) := dk_of ((dk_bind (dk_u1 (h 0 _ rfl))).trans ((dk_bind (dk_u1 (h 1 _ rfl))).trans ((dk_bind (dk_map (dk_u1 (h 2 _ rfl)))).trans rfl)))
theorem dk_133 {code : ByteArray} {pc : Nat} (h : DkAt code pc [133]) : decode code pc = .ok (.i2l, 1) := dk_of ((dk_bind (dk_u1 (h 0 _ rfl))).trans rfl)
theorem dk_148 {code : ByteArray} {pc : Nat} (h : DkAt code pc [148]) : decode code pc = .ok (.lcmp, 1) := dk_of ((dk_bind (dk_u1 (h 0 _ rfl))).trans rfl)
theorem dk_154 {code : ByteArray} {pc : Nat} (a b : UInt8) (h : DkAt code pc [154, a, b]) : decode code pc = .ok (.ifCond .ne (Reader.signed 16 (a.toNat * 256 + b.toNat)), 3) := dk_of ((dk_bind (dk_u1 (h 0 _ rfl))).trans ((dk_bind (dk_map (dk_u2 (h 1 _ rfl) (h 2 _ rfl)))).trans rfl))
theorem dk_158 {code : ByteArray} {pc : Nat} (a b : UInt8) (h : DkAt code pc [158, a, b]) : decode code pc = .ok (.ifCond .le (Reader.signed 16 (a.toNat * 256 + b.toNat)), 3) := dk_of ((dk_bind (dk_u1 (h 0 _ rfl))).trans ((dk_bind (dk_map (dk_u2 (h 1 _ rfl) (h 2 _ rfl)))).trans rfl))
theorem dk_159 {code : ByteArray} {pc : Nat} (a b : UInt8) (h : DkAt code pc [159, a, b]) : decode code pc = .ok (.if_icmp .eq (Reader.signed 16 (a.toNat * 256 + b.toNat)), 3) := dk_of ((dk_bind (dk_u1 (h 0 _ rfl))).trans ((dk_bind (dk_map (dk_u2 (h 1 _ rfl) (h 2 _ rfl)))).trans rfl))
theorem dk_160 {code : ByteArray} {pc : Nat} (a b : UInt8) (h : DkAt code pc [160, a, b]) : decode code pc = .ok (.if_icmp .ne (Reader.signed 16 (a.toNat * 256 + b.toNat)), 3) := dk_of ((dk_bind (dk_u1 (h 0 _ rfl))).trans ((dk_bind (dk_map (dk_u2 (h 1 _ rfl) (h 2 _ rfl)))).trans rfl))
theorem dk_162 {code : ByteArray} {pc : Nat} (a b : UInt8) (h : DkAt code pc [162, a, b]) : decode code pc = .ok (.if_icmp .ge (Reader.signed 16 (a.toNat * 256 + b.toNat)), 3) := dk_of ((dk_bind (dk_u1 (h 0 _ rfl))).trans ((dk_bind (dk_map (dk_u2 (h 1 _ rfl) (h 2 _ rfl)))).trans rfl))
theorem dk_163 {code : ByteArray} {pc : Nat} (a b : UInt8) (h : DkAt code pc [163, a, b]) : decode code pc = .ok (.if_icmp .gt (Reader.signed 16 (a.toNat * 256 + b.toNat)), 3) := dk_of ((dk_bind (dk_u1 (h 0 _ rfl))).trans ((dk_bind (dk_map (dk_u2 (h 1 _ rfl) (h 2 _ rfl)))).trans rfl))
theorem dk_164 {code : ByteArray} {pc : Nat} (a b : UInt8) (h : DkAt code pc [164, a, b]) : decode code pc = .ok (.if_icmp .le (Reader.signed 16 (a.toNat * 256 + b.toNat)), 3) := dk_of ((dk_bind (dk_u1 (h 0 _ rfl))).trans ((dk_bind (dk_map (dk_u2 (h 1 _ rfl) (h 2 _ rfl)))).trans rfl))
theorem dk_167 {code : ByteArray} {pc : Nat} (a b : UInt8) (h : DkAt code pc [167, a, b]) : decode code pc = .ok (.goto (Reader.signed 16 (a.toNat * 256 + b.toNat)), 3) := dk_of ((dk_bind (dk_u1 (h 0 _ rfl))).trans ((dk_bind (dk_map (dk_u2 (h 1 _ rfl) (h 2 _ rfl)))).trans rfl))
theorem dk_172 {code : ByteArray} {pc : Nat} (h : DkAt code pc [172]) : decode code pc = .ok (.ireturn, 1) := dk_of ((dk_bind (dk_u1 (h 0 _ rfl))).trans rfl)
theorem dk_173 {code : ByteArray} {pc : Nat} (h : DkAt code pc [173]) : decode code pc = .ok (.lreturn, 1) := dk_of ((dk_bind (dk_u1 (h 0 _ rfl))).trans rfl)
theorem dk_177 {code : ByteArray} {pc : Nat} (h : DkAt code pc [177]) : decode code pc = .ok (.return_, 1) := dk_of ((dk_bind (dk_u1 (h 0 _ rfl))).trans rfl)
theorem dk_180 {code : ByteArray} {pc : Nat} (a b : UInt8) (h : DkAt code pc [180, a, b]) : decode code pc = .ok (.getfield (a.toNat * 256 + b.toNat), 3) := dk_of ((dk_bind (dk_u1 (h 0 _ rfl))).trans ((dk_bind (dk_u2 (h 1 _ rfl) (h 2 _ rfl))).trans rfl))
theorem dk_181 {code : ByteArray} {pc : Nat} (a b : UInt8) (h : DkAt code pc [181, a, b]) : decode code pc = .ok (.putfield (a.toNat * 256 + b.toNat), 3) := dk_of ((dk_bind (dk_u1 (h 0 _ rfl))).trans ((dk_bind (dk_u2 (h 1 _ rfl) (h 2 _ rfl))).trans rfl))
theorem dk_182 {code : ByteArray} {pc : Nat} (a b : UInt8) (h : DkAt code pc [182, a, b]) : decode code pc = .ok (.invokevirtual (a.toNat * 256 + b.toNat), 3) := dk_of ((dk_bind (dk_u1 (h 0 _ rfl))).trans ((dk_bind (dk_u2 (h 1 _ rfl) (h 2 _ rfl))).trans rfl))
theorem dk_183 {code : ByteArray} {pc : Nat} (a b : UInt8) (h : DkAt code pc [183, a, b]) : decode code pc = .ok (.invokespecial (a.toNat * 256 + b.toNat), 3) := dk_of ((dk_bind (dk_u1 (h 0 _ rfl))).trans ((dk_bind (dk_u2 (h 1 _ rfl) (h 2 _ rfl))).trans rfl))
theorem dk_184 {code : ByteArray} {pc : Nat} (a b : UInt8) (h : DkAt code pc [184, a, b]) : decode code pc = .ok (.invokestatic (a.toNat * 256 + b.toNat), 3) := dk_of ((dk_bind (dk_u1 (h 0 _ rfl))).trans ((dk_bind (dk_u2 (h 1 _ rfl) (h 2 _ rfl))).trans rfl))
theorem dk_187 {code : ByteArray} {pc : Nat} (a b : UInt8) (h : DkAt code pc [187, a, b]) : decode code pc = .ok (.new (a.toNat * 256 + b.toNat), 3) := dk_of ((dk_bind (dk_u1 (h 0 _ rfl))).trans ((dk_bind (dk_u2 (h 1 _ rfl) (h 2 _ rfl))).trans rfl))
theorem dk_188_10 {code : ByteArray} {pc : Nat} (h : DkAt code pc [188, 10]) : decode code pc = .ok (.newarray .int, 2) := dk_of ((dk_bind (dk_u1 (h 0 _ rfl))).trans ((dk_bind (dk_u1 (h 1 _ rfl))).trans rfl))
theorem dk_190 {code : ByteArray} {pc : Nat} (h : DkAt code pc [190]) : decode code pc = .ok (.arraylength, 1) := dk_of ((dk_bind (dk_u1 (h 0 _ rfl))).trans rfl)
/-! java/lang/Object -/
set_option maxRecDepth 100000
def RJ0 : String := "java/lang/Object"
abbrev cJ0_init : ByteArray := object_method_1_code
def yJ0_init : MethodName := ⟨RJ0, "<init>", "()V"⟩
theorem dJ0_init_0 : decode cJ0_init 0 = .ok (.return_, 1) := by decide +kernel
theorem q9 : (Jvm.Cond.instanceMethod ({ cls := "java/lang/Object", name := "<init>", desc := "()V" } : Jvm.MethodName)) ∈ lw_all := lw_g (lw_at lw_m0 9 rfl) rfl
theorem q10 : (Jvm.Cond.code ({ cls := "java/lang/Object", name := "<init>", desc := "()V" } : Jvm.MethodName) object_method_1_code (1 : Nat) (Option.none : Option Jvm.ClassFile.FieldType)) ∈ lw_all := lw_g (lw_at lw_m0 10 rfl) rfl
theorem q18 : (Jvm.Cond.arrayClass Jvm.ClassFile.FieldType.int) ∈ lw_all := lw_g (lw_at lw_m0 18 rfl) rfl
set_option maxRecDepth 100000
/-! Utils -/
set_option maxRecDepth 100000
def RX2 : String := "Utils"
abbrev cX2_cryptoSort : ByteArray := prog_3_method_3_code
def yX2_cryptoSort : MethodName := ⟨RX2, "cryptoSort", "([II)V"⟩
def dkwX2_cryptoSort_5 : List UInt8 := [4, 124, 62, 167, 255, 158, 177]
abbrev dktX2_cryptoSort_5 : List UInt8 := dkwX2_cryptoSort_5 ++ []
def dkwX2_cryptoSort_4 : List UInt8 := [21, 5, 21, 4, 96, 184, 0, 8, 132, 5, 1, 167, 255, 224, 21, 4, 4, 124, 54, 4, 167, 255, 206, 29]
abbrev dktX2_cryptoSort_4 : List UInt8 := dkwX2_cryptoSort_4 ++ dktX2_cryptoSort_5
def dkwX2_cryptoSort_3 : List UInt8 := [3, 54, 5, 21, 5, 27, 21, 4, 100, 162, 0, 29, 21, 5, 29, 126, 154, 0, 16, 42, 21, 5, 29, 96]
abbrev dktX2_cryptoSort_3 : List UInt8 := dkwX2_cryptoSort_3 ++ dktX2_cryptoSort_4
def dkwX2_cryptoSort_2 : List UInt8 := [21, 5, 21, 5, 29, 96, 184, 0, 8, 132, 5, 1, 167, 255, 228, 28, 54, 4, 21, 4, 29, 164, 0, 50]
abbrev dktX2_cryptoSort_2 : List UInt8 := dkwX2_cryptoSort_2 ++ dktX2_cryptoSort_3
def dkwX2_cryptoSort_1 : List UInt8 := [29, 158, 0, 100, 3, 54, 5, 21, 5, 27, 29, 100, 162, 0, 26, 21, 5, 29, 126, 154, 0, 13, 42]
abbrev dktX2_cryptoSort_1 : List UInt8 := dkwX2_cryptoSort_1 ++ dktX2_cryptoSort_2
def dkwX2_cryptoSort_0 : List UInt8 := [27, 5, 162, 0, 4, 177, 4, 61, 28, 27, 28, 100, 162, 0, 10, 28, 28, 96, 61, 167, 255, 245, 28, 62]
abbrev dktX2_cryptoSort_0 : List UInt8 := dkwX2_cryptoSort_0 ++ dktX2_cryptoSort_1
theorem dksX2_cryptoSort_0 : cX2_cryptoSort.data.toList.drop 0 = dktX2_cryptoSort_0 := by decide +kernel
theorem dksX2_cryptoSort_1 : cX2_cryptoSort.data.toList.drop 24 = dktX2_cryptoSort_1 := dk_seg dksX2_cryptoSort_0 24 rfl rfl
theorem dksX2_cryptoSort_2 : cX2_cryptoSort.data.toList.drop 47 = dktX2_cryptoSort_2 := dk_seg dksX2_cryptoSort_1 23 rfl rfl
theorem dksX2_cryptoSort_3 : cX2_cryptoSort.data.toList.drop 71 = dktX2_cryptoSort_3 := dk_seg dksX2_cryptoSort_2 24 rfl rfl
theorem dksX2_cryptoSort_4 : cX2_cryptoSort.data.toList.drop 95 = dktX2_cryptoSort_4 := dk_seg dksX2_cryptoSort_3 24 rfl rfl
theorem dksX2_cryptoSort_5 : cX2_cryptoSort.data.toList.drop 119 = dktX2_cryptoSort_5 := dk_seg dksX2_cryptoSort_4 24 rfl rfl
theorem dX2_cryptoSort_0 : decode cX2_cryptoSort 0 = .ok (.iload_n 1, 1) := dk_27 (dk_at dksX2_cryptoSort_0 0 rfl rfl)
theorem dX2_cryptoSort_1 : decode cX2_cryptoSort 1 = .ok (.iconst 2, 1) := dk_5 (dk_at dksX2_cryptoSort_0 1 rfl rfl)
theorem dX2_cryptoSort_2 : decode cX2_cryptoSort 2 = .ok (.if_icmp .ge 4, 3) := dk_162 0 4 (dk_at dksX2_cryptoSort_0 2 rfl rfl)
theorem dX2_cryptoSort_5 : decode cX2_cryptoSort 5 = .ok (.return_, 1) := dk_177 (dk_at dksX2_cryptoSort_0 5 rfl rfl)
theorem dX2_cryptoSort_6 : decode cX2_cryptoSort 6 = .ok (.iconst 1, 1) := dk_4 (dk_at dksX2_cryptoSort_0 6 rfl rfl)
theorem dX2_cryptoSort_7 : decode cX2_cryptoSort 7 = .ok (.istore_n 2, 1) := dk_61 (dk_at dksX2_cryptoSort_0 7 rfl rfl)
theorem dX2_cryptoSort_8 : decode cX2_cryptoSort 8 = .ok (.iload_n 2, 1) := dk_28 (dk_at dksX2_cryptoSort_0 8 rfl rfl)
theorem dX2_cryptoSort_9 : decode cX2_cryptoSort 9 = .ok (.iload_n 1, 1) := dk_27 (dk_at dksX2_cryptoSort_0 9 rfl rfl)
theorem dX2_cryptoSort_10 : decode cX2_cryptoSort 10 = .ok (.iload_n 2, 1) := dk_28 (dk_at dksX2_cryptoSort_0 10 rfl rfl)
theorem dX2_cryptoSort_11 : decode cX2_cryptoSort 11 = .ok (.isub, 1) := dk_100 (dk_at dksX2_cryptoSort_0 11 rfl rfl)
theorem dX2_cryptoSort_12 : decode cX2_cryptoSort 12 = .ok (.if_icmp .ge 10, 3) := dk_162 0 10 (dk_at dksX2_cryptoSort_0 12 rfl rfl)
theorem dX2_cryptoSort_15 : decode cX2_cryptoSort 15 = .ok (.iload_n 2, 1) := dk_28 (dk_at dksX2_cryptoSort_0 15 rfl rfl)
theorem dX2_cryptoSort_16 : decode cX2_cryptoSort 16 = .ok (.iload_n 2, 1) := dk_28 (dk_at dksX2_cryptoSort_0 16 rfl rfl)
theorem dX2_cryptoSort_17 : decode cX2_cryptoSort 17 = .ok (.iadd, 1) := dk_96 (dk_at dksX2_cryptoSort_0 17 rfl rfl)
theorem dX2_cryptoSort_18 : decode cX2_cryptoSort 18 = .ok (.istore_n 2, 1) := dk_61 (dk_at dksX2_cryptoSort_0 18 rfl rfl)
theorem dX2_cryptoSort_19 : decode cX2_cryptoSort 19 = .ok (.goto (-11), 3) := dk_167 255 245 (dk_at dksX2_cryptoSort_0 19 rfl rfl)
theorem dX2_cryptoSort_22 : decode cX2_cryptoSort 22 = .ok (.iload_n 2, 1) := dk_28 (dk_at dksX2_cryptoSort_0 22 rfl rfl)
theorem dX2_cryptoSort_23 : decode cX2_cryptoSort 23 = .ok (.istore_n 3, 1) := dk_62 (dk_at dksX2_cryptoSort_0 23 rfl rfl)
theorem dX2_cryptoSort_24 : decode cX2_cryptoSort 24 = .ok (.iload_n 3, 1) := dk_29 (dk_at dksX2_cryptoSort_1 0 rfl rfl)
theorem dX2_cryptoSort_25 : decode cX2_cryptoSort 25 = .ok (.ifCond .le 100, 3) := dk_158 0 100 (dk_at dksX2_cryptoSort_1 1 rfl rfl)
theorem dX2_cryptoSort_28 : decode cX2_cryptoSort 28 = .ok (.iconst 0, 1) := dk_3 (dk_at dksX2_cryptoSort_1 4 rfl rfl)
theorem dX2_cryptoSort_29 : decode cX2_cryptoSort 29 = .ok (.istore 5, 2) := dk_54 5 (dk_at dksX2_cryptoSort_1 5 rfl rfl)
theorem dX2_cryptoSort_31 : decode cX2_cryptoSort 31 = .ok (.iload 5, 2) := dk_21 5 (dk_at dksX2_cryptoSort_1 7 rfl rfl)
theorem dX2_cryptoSort_33 : decode cX2_cryptoSort 33 = .ok (.iload_n 1, 1) := dk_27 (dk_at dksX2_cryptoSort_1 9 rfl rfl)
theorem dX2_cryptoSort_34 : decode cX2_cryptoSort 34 = .ok (.iload_n 3, 1) := dk_29 (dk_at dksX2_cryptoSort_1 10 rfl rfl)
theorem dX2_cryptoSort_35 : decode cX2_cryptoSort 35 = .ok (.isub, 1) := dk_100 (dk_at dksX2_cryptoSort_1 11 rfl rfl)
theorem dX2_cryptoSort_36 : decode cX2_cryptoSort 36 = .ok (.if_icmp .ge 26, 3) := dk_162 0 26 (dk_at dksX2_cryptoSort_1 12 rfl rfl)
theorem dX2_cryptoSort_39 : decode cX2_cryptoSort 39 = .ok (.iload 5, 2) := dk_21 5 (dk_at dksX2_cryptoSort_1 15 rfl rfl)
theorem dX2_cryptoSort_41 : decode cX2_cryptoSort 41 = .ok (.iload_n 3, 1) := dk_29 (dk_at dksX2_cryptoSort_1 17 rfl rfl)
theorem dX2_cryptoSort_42 : decode cX2_cryptoSort 42 = .ok (.iand, 1) := dk_126 (dk_at dksX2_cryptoSort_1 18 rfl rfl)
theorem dX2_cryptoSort_43 : decode cX2_cryptoSort 43 = .ok (.ifCond .ne 13, 3) := dk_154 0 13 (dk_at dksX2_cryptoSort_1 19 rfl rfl)
theorem dX2_cryptoSort_46 : decode cX2_cryptoSort 46 = .ok (.aload_n 0, 1) := dk_42 (dk_at dksX2_cryptoSort_1 22 rfl rfl)
theorem dX2_cryptoSort_47 : decode cX2_cryptoSort 47 = .ok (.iload 5, 2) := dk_21 5 (dk_at dksX2_cryptoSort_2 0 rfl rfl)
theorem dX2_cryptoSort_49 : decode cX2_cryptoSort 49 = .ok (.iload 5, 2) := dk_21 5 (dk_at dksX2_cryptoSort_2 2 rfl rfl)
theorem dX2_cryptoSort_51 : decode cX2_cryptoSort 51 = .ok (.iload_n 3, 1) := dk_29 (dk_at dksX2_cryptoSort_2 4 rfl rfl)
theorem dX2_cryptoSort_52 : decode cX2_cryptoSort 52 = .ok (.iadd, 1) := dk_96 (dk_at dksX2_cryptoSort_2 5 rfl rfl)
theorem dX2_cryptoSort_53 : decode cX2_cryptoSort 53 = .ok (.invokestatic 8, 3) := dk_184 0 8 (dk_at dksX2_cryptoSort_2 6 rfl rfl)
theorem dX2_cryptoSort_56 : decode cX2_cryptoSort 56 = .ok (.iinc 5 1, 3) := dk_132 5 1 (dk_at dksX2_cryptoSort_2 9 rfl rfl)
theorem dX2_cryptoSort_59 : decode cX2_cryptoSort 59 = .ok (.goto (-28), 3) := dk_167 255 228 (dk_at dksX2_cryptoSort_2 12 rfl rfl)
theorem dX2_cryptoSort_62 : decode cX2_cryptoSort 62 = .ok (.iload_n 2, 1) := dk_28 (dk_at dksX2_cryptoSort_2 15 rfl rfl)
theorem dX2_cryptoSort_63 : decode cX2_cryptoSort 63 = .ok (.istore 4, 2) := dk_54 4 (dk_at dksX2_cryptoSort_2 16 rfl rfl)
theorem dX2_cryptoSort_65 : decode cX2_cryptoSort 65 = .ok (.iload 4, 2) := dk_21 4 (dk_at dksX2_cryptoSort_2 18 rfl rfl)
theorem dX2_cryptoSort_67 : decode cX2_cryptoSort 67 = .ok (.iload_n 3, 1) := dk_29 (dk_at dksX2_cryptoSort_2 20 rfl rfl)
theorem dX2_cryptoSort_68 : decode cX2_cryptoSort 68 = .ok (.if_icmp .le 50, 3) := dk_164 0 50 (dk_at dksX2_cryptoSort_2 21 rfl rfl)
theorem dX2_cryptoSort_71 : decode cX2_cryptoSort 71 = .ok (.iconst 0, 1) := dk_3 (dk_at dksX2_cryptoSort_3 0 rfl rfl)
theorem dX2_cryptoSort_72 : decode cX2_cryptoSort 72 = .ok (.istore 5, 2) := dk_54 5 (dk_at dksX2_cryptoSort_3 1 rfl rfl)
theorem dX2_cryptoSort_74 : decode cX2_cryptoSort 74 = .ok (.iload 5, 2) := dk_21 5 (dk_at dksX2_cryptoSort_3 3 rfl rfl)
theorem dX2_cryptoSort_76 : decode cX2_cryptoSort 76 = .ok (.iload_n 1, 1) := dk_27 (dk_at dksX2_cryptoSort_3 5 rfl rfl)
theorem dX2_cryptoSort_77 : decode cX2_cryptoSort 77 = .ok (.iload 4, 2) := dk_21 4 (dk_at dksX2_cryptoSort_3 6 rfl rfl)
theorem dX2_cryptoSort_79 : decode cX2_cryptoSort 79 = .ok (.isub, 1) := dk_100 (dk_at dksX2_cryptoSort_3 8 rfl rfl)
theorem dX2_cryptoSort_80 : decode cX2_cryptoSort 80 = .ok (.if_icmp .ge 29, 3) := dk_162 0 29 (dk_at dksX2_cryptoSort_3 9 rfl rfl)
theorem dX2_cryptoSort_83 : decode cX2_cryptoSort 83 = .ok (.iload 5, 2) := dk_21 5 (dk_at dksX2_cryptoSort_3 12 rfl rfl)
theorem dX2_cryptoSort_85 : decode cX2_cryptoSort 85 = .ok (.iload_n 3, 1) := dk_29 (dk_at dksX2_cryptoSort_3 14 rfl rfl)
theorem dX2_cryptoSort_86 : decode cX2_cryptoSort 86 = .ok (.iand, 1) := dk_126 (dk_at dksX2_cryptoSort_3 15 rfl rfl)
theorem dX2_cryptoSort_87 : decode cX2_cryptoSort 87 = .ok (.ifCond .ne 16, 3) := dk_154 0 16 (dk_at dksX2_cryptoSort_3 16 rfl rfl)
theorem dX2_cryptoSort_90 : decode cX2_cryptoSort 90 = .ok (.aload_n 0, 1) := dk_42 (dk_at dksX2_cryptoSort_3 19 rfl rfl)
theorem dX2_cryptoSort_91 : decode cX2_cryptoSort 91 = .ok (.iload 5, 2) := dk_21 5 (dk_at dksX2_cryptoSort_3 20 rfl rfl)
theorem dX2_cryptoSort_93 : decode cX2_cryptoSort 93 = .ok (.iload_n 3, 1) := dk_29 (dk_at dksX2_cryptoSort_3 22 rfl rfl)
theorem dX2_cryptoSort_94 : decode cX2_cryptoSort 94 = .ok (.iadd, 1) := dk_96 (dk_at dksX2_cryptoSort_3 23 rfl rfl)
theorem dX2_cryptoSort_95 : decode cX2_cryptoSort 95 = .ok (.iload 5, 2) := dk_21 5 (dk_at dksX2_cryptoSort_4 0 rfl rfl)
theorem dX2_cryptoSort_97 : decode cX2_cryptoSort 97 = .ok (.iload 4, 2) := dk_21 4 (dk_at dksX2_cryptoSort_4 2 rfl rfl)
theorem dX2_cryptoSort_99 : decode cX2_cryptoSort 99 = .ok (.iadd, 1) := dk_96 (dk_at dksX2_cryptoSort_4 4 rfl rfl)
theorem dX2_cryptoSort_100 : decode cX2_cryptoSort 100 = .ok (.invokestatic 8, 3) := dk_184 0 8 (dk_at dksX2_cryptoSort_4 5 rfl rfl)
theorem dX2_cryptoSort_103 : decode cX2_cryptoSort 103 = .ok (.iinc 5 1, 3) := dk_132 5 1 (dk_at dksX2_cryptoSort_4 8 rfl rfl)
theorem dX2_cryptoSort_106 : decode cX2_cryptoSort 106 = .ok (.goto (-32), 3) := dk_167 255 224 (dk_at dksX2_cryptoSort_4 11 rfl rfl)
theorem dX2_cryptoSort_109 : decode cX2_cryptoSort 109 = .ok (.iload 4, 2) := dk_21 4 (dk_at dksX2_cryptoSort_4 14 rfl rfl)
theorem dX2_cryptoSort_111 : decode cX2_cryptoSort 111 = .ok (.iconst 1, 1) := dk_4 (dk_at dksX2_cryptoSort_4 16 rfl rfl)
theorem dX2_cryptoSort_112 : decode cX2_cryptoSort 112 = .ok (.iushr, 1) := dk_124 (dk_at dksX2_cryptoSort_4 17 rfl rfl)
theorem dX2_cryptoSort_113 : decode cX2_cryptoSort 113 = .ok (.istore 4, 2) := dk_54 4 (dk_at dksX2_cryptoSort_4 18 rfl rfl)
theorem dX2_cryptoSort_115 : decode cX2_cryptoSort 115 = .ok (.goto (-50), 3) := dk_167 255 206 (dk_at dksX2_cryptoSort_4 20 rfl rfl)
theorem dX2_cryptoSort_118 : decode cX2_cryptoSort 118 = .ok (.iload_n 3, 1) := dk_29 (dk_at dksX2_cryptoSort_4 23 rfl rfl)
theorem dX2_cryptoSort_119 : decode cX2_cryptoSort 119 = .ok (.iconst 1, 1) := dk_4 (dk_at dksX2_cryptoSort_5 0 rfl rfl)
theorem dX2_cryptoSort_120 : decode cX2_cryptoSort 120 = .ok (.iushr, 1) := dk_124 (dk_at dksX2_cryptoSort_5 1 rfl rfl)
theorem dX2_cryptoSort_121 : decode cX2_cryptoSort 121 = .ok (.istore_n 3, 1) := dk_62 (dk_at dksX2_cryptoSort_5 2 rfl rfl)
theorem dX2_cryptoSort_122 : decode cX2_cryptoSort 122 = .ok (.goto (-98), 3) := dk_167 255 158 (dk_at dksX2_cryptoSort_5 3 rfl rfl)
theorem dX2_cryptoSort_125 : decode cX2_cryptoSort 125 = .ok (.return_, 1) := dk_177 (dk_at dksX2_cryptoSort_5 6 rfl rfl)
abbrev cX2_minmax : ByteArray := prog_3_method_2_code
def yX2_minmax : MethodName := ⟨RX2, "minmax", "([III)V"⟩
def dkwX2_minmax_3 : List UInt8 := [177]
abbrev dktX2_minmax_3 : List UInt8 := dkwX2_minmax_3 ++ []
def dkwX2_minmax_2 : List UInt8 := [54, 6, 21, 6, 21, 5, 126, 54, 6, 42, 27, 29, 21, 6, 130, 79, 42, 28, 21, 4, 21, 6, 130, 79]
abbrev dktX2_minmax_2 : List UInt8 := dkwX2_minmax_2 ++ dktX2_minmax_3
def dkwX2_minmax_1 : List UInt8 := [21, 5, 21, 6, 21, 4, 130, 18, 7, 130, 126, 130, 54, 6, 21, 6, 16, 31, 124, 54, 6, 21, 6, 116]
abbrev dktX2_minmax_1 : List UInt8 := dkwX2_minmax_1 ++ dktX2_minmax_2
def dkwX2_minmax_0 : List UInt8 := [42, 27, 46, 62, 42, 28, 46, 54, 4, 29, 21, 4, 130, 54, 5, 21, 4, 29, 100, 54, 6, 21, 6]
abbrev dktX2_minmax_0 : List UInt8 := dkwX2_minmax_0 ++ dktX2_minmax_1
theorem dksX2_minmax_0 : cX2_minmax.data.toList.drop 0 = dktX2_minmax_0 := by decide +kernel
theorem dksX2_minmax_1 : cX2_minmax.data.toList.drop 23 = dktX2_minmax_1 := dk_seg dksX2_minmax_0 23 rfl rfl
theorem dksX2_minmax_2 : cX2_minmax.data.toList.drop 47 = dktX2_minmax_2 := dk_seg dksX2_minmax_1 24 rfl rfl
theorem dksX2_minmax_3 : cX2_minmax.data.toList.drop 71 = dktX2_minmax_3 := dk_seg dksX2_minmax_2 24 rfl rfl
theorem dX2_minmax_0 : decode cX2_minmax 0 = .ok (.aload_n 0, 1) := dk_42 (dk_at dksX2_minmax_0 0 rfl rfl)
theorem dX2_minmax_1 : decode cX2_minmax 1 = .ok (.iload_n 1, 1) := dk_27 (dk_at dksX2_minmax_0 1 rfl rfl)
theorem dX2_minmax_2 : decode cX2_minmax 2 = .ok (.iaload, 1) := dk_46 (dk_at dksX2_minmax_0 2 rfl rfl)
theorem dX2_minmax_3 : decode cX2_minmax 3 = .ok (.istore_n 3, 1) := dk_62 (dk_at dksX2_minmax_0 3 rfl rfl)
theorem dX2_minmax_4 : decode cX2_minmax 4 = .ok (.aload_n 0, 1) := dk_42 (dk_at dksX2_minmax_0 4 rfl rfl)
theorem dX2_minmax_5 : decode cX2_minmax 5 = .ok (.iload_n 2, 1) := dk_28 (dk_at dksX2_minmax_0 5 rfl rfl)
theorem dX2_minmax_6 : decode cX2_minmax 6 = .ok (.iaload, 1) := dk_46 (dk_at dksX2_minmax_0 6 rfl rfl)
theorem dX2_minmax_7 : decode cX2_minmax 7 = .ok (.istore 4, 2) := dk_54 4 (dk_at dksX2_minmax_0 7 rfl rfl)
theorem dX2_minmax_9 : decode cX2_minmax 9 = .ok (.iload_n 3, 1) := dk_29 (dk_at dksX2_minmax_0 9 rfl rfl)
theorem dX2_minmax_10 : decode cX2_minmax 10 = .ok (.iload 4, 2) := dk_21 4 (dk_at dksX2_minmax_0 10 rfl rfl)
theorem dX2_minmax_12 : decode cX2_minmax 12 = .ok (.ixor, 1) := dk_130 (dk_at dksX2_minmax_0 12 rfl rfl)
theorem dX2_minmax_13 : decode cX2_minmax 13 = .ok (.istore 5, 2) := dk_54 5 (dk_at dksX2_minmax_0 13 rfl rfl)
theorem dX2_minmax_15 : decode cX2_minmax 15 = .ok (.iload 4, 2) := dk_21 4 (dk_at dksX2_minmax_0 15 rfl rfl)
theorem dX2_minmax_17 : decode cX2_minmax 17 = .ok (.iload_n 3, 1) := dk_29 (dk_at dksX2_minmax_0 17 rfl rfl)
theorem dX2_minmax_18 : decode cX2_minmax 18 = .ok (.isub, 1) := dk_100 (dk_at dksX2_minmax_0 18 rfl rfl)
theorem dX2_minmax_19 : decode cX2_minmax 19 = .ok (.istore 6, 2) := dk_54 6 (dk_at dksX2_minmax_0 19 rfl rfl)
theorem dX2_minmax_21 : decode cX2_minmax 21 = .ok (.iload 6, 2) := dk_21 6 (dk_at dksX2_minmax_0 21 rfl rfl)
theorem dX2_minmax_23 : decode cX2_minmax 23 = .ok (.iload 5, 2) := dk_21 5 (dk_at dksX2_minmax_1 0 rfl rfl)
theorem dX2_minmax_25 : decode cX2_minmax 25 = .ok (.iload 6, 2) := dk_21 6 (dk_at dksX2_minmax_1 2 rfl rfl)
theorem dX2_minmax_27 : decode cX2_minmax 27 = .ok (.iload 4, 2) := dk_21 4 (dk_at dksX2_minmax_1 4 rfl rfl)
theorem dX2_minmax_29 : decode cX2_minmax 29 = .ok (.ixor, 1) := dk_130 (dk_at dksX2_minmax_1 6 rfl rfl)
theorem dX2_minmax_30 : decode cX2_minmax 30 = .ok (.ldc 7, 2) := dk_18 7 (dk_at dksX2_minmax_1 7 rfl rfl)
theorem dX2_minmax_32 : decode cX2_minmax 32 = .ok (.ixor, 1) := dk_130 (dk_at dksX2_minmax_1 9 rfl rfl)
theorem dX2_minmax_33 : decode cX2_minmax 33 = .ok (.iand, 1) := dk_126 (dk_at dksX2_minmax_1 10 rfl rfl)
theorem dX2_minmax_34 : decode cX2_minmax 34 = .ok (.ixor, 1) := dk_130 (dk_at dksX2_minmax_1 11 rfl rfl)
theorem dX2_minmax_35 : decode cX2_minmax 35 = .ok (.istore 6, 2) := dk_54 6 (dk_at dksX2_minmax_1 12 rfl rfl)
theorem dX2_minmax_37 : decode cX2_minmax 37 = .ok (.iload 6, 2) := dk_21 6 (dk_at dksX2_minmax_1 14 rfl rfl)
theorem dX2_minmax_39 : decode cX2_minmax 39 = .ok (.bipush 31, 2) := dk_16 31 (dk_at dksX2_minmax_1 16 rfl rfl)
theorem dX2_minmax_41 : decode cX2_minmax 41 = .ok (.iushr, 1) := dk_124 (dk_at dksX2_minmax_1 18 rfl rfl)
theorem dX2_minmax_42 : decode cX2_minmax 42 = .ok (.istore 6, 2) := dk_54 6 (dk_at dksX2_minmax_1 19 rfl rfl)
theorem dX2_minmax_44 : decode cX2_minmax 44 = .ok (.iload 6, 2) := dk_21 6 (dk_at dksX2_minmax_1 21 rfl rfl)
theorem dX2_minmax_46 : decode cX2_minmax 46 = .ok (.ineg, 1) := dk_116 (dk_at dksX2_minmax_1 23 rfl rfl)
theorem dX2_minmax_47 : decode cX2_minmax 47 = .ok (.istore 6, 2) := dk_54 6 (dk_at dksX2_minmax_2 0 rfl rfl)
theorem dX2_minmax_49 : decode cX2_minmax 49 = .ok (.iload 6, 2) := dk_21 6 (dk_at dksX2_minmax_2 2 rfl rfl)
theorem dX2_minmax_51 : decode cX2_minmax 51 = .ok (.iload 5, 2) := dk_21 5 (dk_at dksX2_minmax_2 4 rfl rfl)
theorem dX2_minmax_53 : decode cX2_minmax 53 = .ok (.iand, 1) := dk_126 (dk_at dksX2_minmax_2 6 rfl rfl)
theorem dX2_minmax_54 : decode cX2_minmax 54 = .ok (.istore 6, 2) := dk_54 6 (dk_at dksX2_minmax_2 7 rfl rfl)
theorem dX2_minmax_56 : decode cX2_minmax 56 = .ok (.aload_n 0, 1) := dk_42 (dk_at dksX2_minmax_2 9 rfl rfl)
theorem dX2_minmax_57 : decode cX2_minmax 57 = .ok (.iload_n 1, 1) := dk_27 (dk_at dksX2_minmax_2 10 rfl rfl)
theorem dX2_minmax_58 : decode cX2_minmax 58 = .ok (.iload_n 3, 1) := dk_29 (dk_at dksX2_minmax_2 11 rfl rfl)
theorem dX2_minmax_59 : decode cX2_minmax 59 = .ok (.iload 6, 2) := dk_21 6 (dk_at dksX2_minmax_2 12 rfl rfl)
theorem dX2_minmax_61 : decode cX2_minmax 61 = .ok (.ixor, 1) := dk_130 (dk_at dksX2_minmax_2 14 rfl rfl)
theorem dX2_minmax_62 : decode cX2_minmax 62 = .ok (.iastore, 1) := dk_79 (dk_at dksX2_minmax_2 15 rfl rfl)
theorem dX2_minmax_63 : decode cX2_minmax 63 = .ok (.aload_n 0, 1) := dk_42 (dk_at dksX2_minmax_2 16 rfl rfl)
theorem dX2_minmax_64 : decode cX2_minmax 64 = .ok (.iload_n 2, 1) := dk_28 (dk_at dksX2_minmax_2 17 rfl rfl)
theorem dX2_minmax_65 : decode cX2_minmax 65 = .ok (.iload 4, 2) := dk_21 4 (dk_at dksX2_minmax_2 18 rfl rfl)
theorem dX2_minmax_67 : decode cX2_minmax 67 = .ok (.iload 6, 2) := dk_21 6 (dk_at dksX2_minmax_2 20 rfl rfl)
theorem dX2_minmax_69 : decode cX2_minmax 69 = .ok (.ixor, 1) := dk_130 (dk_at dksX2_minmax_2 22 rfl rfl)
theorem dX2_minmax_70 : decode cX2_minmax 70 = .ok (.iastore, 1) := dk_79 (dk_at dksX2_minmax_2 23 rfl rfl)
theorem dX2_minmax_71 : decode cX2_minmax 71 = .ok (.return_, 1) := dk_177 (dk_at dksX2_minmax_3 0 rfl rfl)
theorem q2 : (Jvm.Cond.initialized "Utils") ∈ lw_all := lw_g (lw_at lw_m0 2 rfl) rfl
theorem q38 : (Jvm.Cond.static ({ cls := "Utils", name := "cryptoSort", desc := "([II)V" } : Jvm.MethodName)) ∈ lw_all := lw_g (lw_at lw_m0 38 rfl) rfl
theorem q39 : (Jvm.Cond.code ({ cls := "Utils", name := "cryptoSort", desc := "([II)V" } : Jvm.MethodName) prog_3_method_3_code (6 : Nat) (Option.none : Option Jvm.ClassFile.FieldType)) ∈ lw_all := lw_g (lw_at lw_m0 39 rfl) rfl
theorem q40 : (Jvm.Cond.methodLink "Utils" (8 : Nat) ({ cls := "Utils", name := "minmax", desc := "([III)V" } : Jvm.MethodName)) ∈ lw_all := lw_g (lw_at lw_m0 40 rfl) rfl
theorem q41 : (Jvm.Cond.static ({ cls := "Utils", name := "minmax", desc := "([III)V" } : Jvm.MethodName)) ∈ lw_all := lw_g (lw_at lw_m0 41 rfl) rfl
theorem q42 : (Jvm.Cond.code ({ cls := "Utils", name := "minmax", desc := "([III)V" } : Jvm.MethodName) prog_3_method_2_code (7 : Nat) (Option.none : Option Jvm.ClassFile.FieldType)) ∈ lw_all := lw_g (lw_at lw_m0 42 rfl) rfl
theorem q43 : (Jvm.Cond.constant "Utils" (7 : Nat) (-2147483648 : Int32)) ∈ lw_all := lw_g (lw_at lw_m0 43 rfl) rfl
/-! NetworkSort -/
set_option maxRecDepth 100000
def RX1 : String := "NetworkSort"
def TX1 : u_T := fun k => match k with
  | 0 => ("NetworkSort", "row", "[I", true)
  | _ => ("NetworkSort", "length", "I", false)
def tyX1 : Nat → FieldType := fun k => match k with
  | 0 => .array .int
  | _ => .int
abbrev wsX10 : List Cond := u_ws RX1 TX1 2
theorem nmX1 : ∀ a, a < 2 → ∀ b, b < 2 → a ≠ b → (TX1 a).2.1 ≠ (TX1 b).2.1 := by decide +kernel
theorem tyX1_ok : ∀ k, k < 2 → parseFieldDescriptor (TX1 k).2.2.1 = some (tyX1 k) := by decide +kernel
abbrev cX1_init : ByteArray := prog_1_method_1_code
def yX1_init : MethodName := ⟨RX1, "<init>", "()V"⟩
def dkwX1_init_0 : List UInt8 := [42, 183, 0, 1, 42, 16, 64, 188, 10, 181, 0, 7, 42, 16, 64, 181, 0, 13, 177]
abbrev dktX1_init_0 : List UInt8 := dkwX1_init_0 ++ []
theorem dksX1_init_0 : cX1_init.data.toList.drop 0 = dktX1_init_0 := by decide +kernel
theorem dX1_init_0 : decode cX1_init 0 = .ok (.aload_n 0, 1) := dk_42 (dk_at dksX1_init_0 0 rfl rfl)
theorem dX1_init_1 : decode cX1_init 1 = .ok (.invokespecial 1, 3) := dk_183 0 1 (dk_at dksX1_init_0 1 rfl rfl)
theorem dX1_init_4 : decode cX1_init 4 = .ok (.aload_n 0, 1) := dk_42 (dk_at dksX1_init_0 4 rfl rfl)
theorem dX1_init_5 : decode cX1_init 5 = .ok (.bipush 64, 2) := dk_16 64 (dk_at dksX1_init_0 5 rfl rfl)
theorem dX1_init_7 : decode cX1_init 7 = .ok (.newarray .int, 2) := dk_188_10 (dk_at dksX1_init_0 7 rfl rfl)
theorem dX1_init_9 : decode cX1_init 9 = .ok (.putfield 7, 3) := dk_181 0 7 (dk_at dksX1_init_0 9 rfl rfl)
theorem dX1_init_12 : decode cX1_init 12 = .ok (.aload_n 0, 1) := dk_42 (dk_at dksX1_init_0 12 rfl rfl)
theorem dX1_init_13 : decode cX1_init 13 = .ok (.bipush 64, 2) := dk_16 64 (dk_at dksX1_init_0 13 rfl rfl)
theorem dX1_init_15 : decode cX1_init 15 = .ok (.putfield 13, 3) := dk_181 0 13 (dk_at dksX1_init_0 15 rfl rfl)
theorem dX1_init_18 : decode cX1_init 18 = .ok (.return_, 1) := dk_177 (dk_at dksX1_init_0 18 rfl rfl)
abbrev cX1_set : ByteArray := prog_1_method_2_code
def yX1_set : MethodName := ⟨RX1, "set", "(II)V"⟩
def dkwX1_set_0 : List UInt8 := [42, 180, 0, 7, 27, 16, 63, 126, 28, 18, 17, 126, 79, 177]
abbrev dktX1_set_0 : List UInt8 := dkwX1_set_0 ++ []
theorem dksX1_set_0 : cX1_set.data.toList.drop 0 = dktX1_set_0 := by decide +kernel
theorem dX1_set_0 : decode cX1_set 0 = .ok (.aload_n 0, 1) := dk_42 (dk_at dksX1_set_0 0 rfl rfl)
theorem dX1_set_1 : decode cX1_set 1 = .ok (.getfield 7, 3) := dk_180 0 7 (dk_at dksX1_set_0 1 rfl rfl)
theorem dX1_set_4 : decode cX1_set 4 = .ok (.iload_n 1, 1) := dk_27 (dk_at dksX1_set_0 4 rfl rfl)
theorem dX1_set_5 : decode cX1_set 5 = .ok (.bipush 63, 2) := dk_16 63 (dk_at dksX1_set_0 5 rfl rfl)
theorem dX1_set_7 : decode cX1_set 7 = .ok (.iand, 1) := dk_126 (dk_at dksX1_set_0 7 rfl rfl)
theorem dX1_set_8 : decode cX1_set 8 = .ok (.iload_n 2, 1) := dk_28 (dk_at dksX1_set_0 8 rfl rfl)
theorem dX1_set_9 : decode cX1_set 9 = .ok (.ldc 17, 2) := dk_18 17 (dk_at dksX1_set_0 9 rfl rfl)
theorem dX1_set_11 : decode cX1_set 11 = .ok (.iand, 1) := dk_126 (dk_at dksX1_set_0 11 rfl rfl)
theorem dX1_set_12 : decode cX1_set 12 = .ok (.iastore, 1) := dk_79 (dk_at dksX1_set_0 12 rfl rfl)
theorem dX1_set_13 : decode cX1_set 13 = .ok (.return_, 1) := dk_177 (dk_at dksX1_set_0 13 rfl rfl)
abbrev cX1_fill : ByteArray := prog_1_method_3_code
def yX1_fill : MethodName := ⟨RX1, "fill", "(II)V"⟩
def dkwX1_fill_1 : List UInt8 := [132, 3, 1, 167, 255, 233, 177]
abbrev dktX1_fill_1 : List UInt8 := dkwX1_fill_1 ++ []
def dkwX1_fill_0 : List UInt8 := [3, 62, 29, 16, 64, 162, 0, 23, 42, 180, 0, 7, 29, 27, 28, 29, 104, 96, 18, 17, 126, 79]
abbrev dktX1_fill_0 : List UInt8 := dkwX1_fill_0 ++ dktX1_fill_1
theorem dksX1_fill_0 : cX1_fill.data.toList.drop 0 = dktX1_fill_0 := by decide +kernel
theorem dksX1_fill_1 : cX1_fill.data.toList.drop 22 = dktX1_fill_1 := dk_seg dksX1_fill_0 22 rfl rfl
theorem dX1_fill_0 : decode cX1_fill 0 = .ok (.iconst 0, 1) := dk_3 (dk_at dksX1_fill_0 0 rfl rfl)
theorem dX1_fill_1 : decode cX1_fill 1 = .ok (.istore_n 3, 1) := dk_62 (dk_at dksX1_fill_0 1 rfl rfl)
theorem dX1_fill_2 : decode cX1_fill 2 = .ok (.iload_n 3, 1) := dk_29 (dk_at dksX1_fill_0 2 rfl rfl)
theorem dX1_fill_3 : decode cX1_fill 3 = .ok (.bipush 64, 2) := dk_16 64 (dk_at dksX1_fill_0 3 rfl rfl)
theorem dX1_fill_5 : decode cX1_fill 5 = .ok (.if_icmp .ge 23, 3) := dk_162 0 23 (dk_at dksX1_fill_0 5 rfl rfl)
theorem dX1_fill_8 : decode cX1_fill 8 = .ok (.aload_n 0, 1) := dk_42 (dk_at dksX1_fill_0 8 rfl rfl)
theorem dX1_fill_9 : decode cX1_fill 9 = .ok (.getfield 7, 3) := dk_180 0 7 (dk_at dksX1_fill_0 9 rfl rfl)
theorem dX1_fill_12 : decode cX1_fill 12 = .ok (.iload_n 3, 1) := dk_29 (dk_at dksX1_fill_0 12 rfl rfl)
theorem dX1_fill_13 : decode cX1_fill 13 = .ok (.iload_n 1, 1) := dk_27 (dk_at dksX1_fill_0 13 rfl rfl)
theorem dX1_fill_14 : decode cX1_fill 14 = .ok (.iload_n 2, 1) := dk_28 (dk_at dksX1_fill_0 14 rfl rfl)
theorem dX1_fill_15 : decode cX1_fill 15 = .ok (.iload_n 3, 1) := dk_29 (dk_at dksX1_fill_0 15 rfl rfl)
theorem dX1_fill_16 : decode cX1_fill 16 = .ok (.imul, 1) := dk_104 (dk_at dksX1_fill_0 16 rfl rfl)
theorem dX1_fill_17 : decode cX1_fill 17 = .ok (.iadd, 1) := dk_96 (dk_at dksX1_fill_0 17 rfl rfl)
theorem dX1_fill_18 : decode cX1_fill 18 = .ok (.ldc 17, 2) := dk_18 17 (dk_at dksX1_fill_0 18 rfl rfl)
theorem dX1_fill_20 : decode cX1_fill 20 = .ok (.iand, 1) := dk_126 (dk_at dksX1_fill_0 20 rfl rfl)
theorem dX1_fill_21 : decode cX1_fill 21 = .ok (.iastore, 1) := dk_79 (dk_at dksX1_fill_0 21 rfl rfl)
theorem dX1_fill_22 : decode cX1_fill 22 = .ok (.iinc 3 1, 3) := dk_132 3 1 (dk_at dksX1_fill_1 0 rfl rfl)
theorem dX1_fill_25 : decode cX1_fill 25 = .ok (.goto (-23), 3) := dk_167 255 233 (dk_at dksX1_fill_1 3 rfl rfl)
theorem dX1_fill_28 : decode cX1_fill 28 = .ok (.return_, 1) := dk_177 (dk_at dksX1_fill_1 6 rfl rfl)
abbrev cX1_length : ByteArray := prog_1_method_4_code
def yX1_length : MethodName := ⟨RX1, "length", "(I)V"⟩
def dkwX1_length_0 : List UInt8 := [42, 5, 27, 18, 18, 126, 16, 63, 112, 96, 181, 0, 13, 177]
abbrev dktX1_length_0 : List UInt8 := dkwX1_length_0 ++ []
theorem dksX1_length_0 : cX1_length.data.toList.drop 0 = dktX1_length_0 := by decide +kernel
theorem dX1_length_0 : decode cX1_length 0 = .ok (.aload_n 0, 1) := dk_42 (dk_at dksX1_length_0 0 rfl rfl)
theorem dX1_length_1 : decode cX1_length 1 = .ok (.iconst 2, 1) := dk_5 (dk_at dksX1_length_0 1 rfl rfl)
theorem dX1_length_2 : decode cX1_length 2 = .ok (.iload_n 1, 1) := dk_27 (dk_at dksX1_length_0 2 rfl rfl)
theorem dX1_length_3 : decode cX1_length 3 = .ok (.ldc 18, 2) := dk_18 18 (dk_at dksX1_length_0 3 rfl rfl)
theorem dX1_length_5 : decode cX1_length 5 = .ok (.iand, 1) := dk_126 (dk_at dksX1_length_0 5 rfl rfl)
theorem dX1_length_6 : decode cX1_length 6 = .ok (.bipush 63, 2) := dk_16 63 (dk_at dksX1_length_0 6 rfl rfl)
theorem dX1_length_8 : decode cX1_length 8 = .ok (.irem, 1) := dk_112 (dk_at dksX1_length_0 8 rfl rfl)
theorem dX1_length_9 : decode cX1_length 9 = .ok (.iadd, 1) := dk_96 (dk_at dksX1_length_0 9 rfl rfl)
theorem dX1_length_10 : decode cX1_length 10 = .ok (.putfield 13, 3) := dk_181 0 13 (dk_at dksX1_length_0 10 rfl rfl)
theorem dX1_length_13 : decode cX1_length 13 = .ok (.return_, 1) := dk_177 (dk_at dksX1_length_0 13 rfl rfl)
abbrev cX1_sort : ByteArray := prog_1_method_5_code
def yX1_sort : MethodName := ⟨RX1, "sort", "()V"⟩
def dkwX1_sort_0 : List UInt8 := [42, 180, 0, 7, 42, 180, 0, 13, 184, 0, 19, 177]
abbrev dktX1_sort_0 : List UInt8 := dkwX1_sort_0 ++ []
theorem dksX1_sort_0 : cX1_sort.data.toList.drop 0 = dktX1_sort_0 := by decide +kernel
theorem dX1_sort_0 : decode cX1_sort 0 = .ok (.aload_n 0, 1) := dk_42 (dk_at dksX1_sort_0 0 rfl rfl)
theorem dX1_sort_1 : decode cX1_sort 1 = .ok (.getfield 7, 3) := dk_180 0 7 (dk_at dksX1_sort_0 1 rfl rfl)
theorem dX1_sort_4 : decode cX1_sort 4 = .ok (.aload_n 0, 1) := dk_42 (dk_at dksX1_sort_0 4 rfl rfl)
theorem dX1_sort_5 : decode cX1_sort 5 = .ok (.getfield 13, 3) := dk_180 0 13 (dk_at dksX1_sort_0 5 rfl rfl)
theorem dX1_sort_8 : decode cX1_sort 8 = .ok (.invokestatic 19, 3) := dk_184 0 19 (dk_at dksX1_sort_0 8 rfl rfl)
theorem dX1_sort_11 : decode cX1_sort 11 = .ok (.return_, 1) := dk_177 (dk_at dksX1_sort_0 11 rfl rfl)
abbrev cX1_get : ByteArray := prog_1_method_6_code
def yX1_get : MethodName := ⟨RX1, "get", "(I)I"⟩
def dkwX1_get_0 : List UInt8 := [42, 180, 0, 7, 27, 16, 63, 126, 46, 172]
abbrev dktX1_get_0 : List UInt8 := dkwX1_get_0 ++ []
theorem dksX1_get_0 : cX1_get.data.toList.drop 0 = dktX1_get_0 := by decide +kernel
theorem dX1_get_0 : decode cX1_get 0 = .ok (.aload_n 0, 1) := dk_42 (dk_at dksX1_get_0 0 rfl rfl)
theorem dX1_get_1 : decode cX1_get 1 = .ok (.getfield 7, 3) := dk_180 0 7 (dk_at dksX1_get_0 1 rfl rfl)
theorem dX1_get_4 : decode cX1_get 4 = .ok (.iload_n 1, 1) := dk_27 (dk_at dksX1_get_0 4 rfl rfl)
theorem dX1_get_5 : decode cX1_get 5 = .ok (.bipush 63, 2) := dk_16 63 (dk_at dksX1_get_0 5 rfl rfl)
theorem dX1_get_7 : decode cX1_get 7 = .ok (.iand, 1) := dk_126 (dk_at dksX1_get_0 7 rfl rfl)
theorem dX1_get_8 : decode cX1_get 8 = .ok (.iaload, 1) := dk_46 (dk_at dksX1_get_0 8 rfl rfl)
theorem dX1_get_9 : decode cX1_get 9 = .ok (.ireturn, 1) := dk_172 (dk_at dksX1_get_0 9 rfl rfl)
abbrev cX1_length_2 : ByteArray := prog_1_method_7_code
def yX1_length_2 : MethodName := ⟨RX1, "length", "()I"⟩
theorem dX1_length_2_0 : decode cX1_length_2 0 = .ok (.aload_n 0, 1) := by decide +kernel
theorem dX1_length_2_1 : decode cX1_length_2 1 = .ok (.getfield 13, 3) := by decide +kernel
theorem dX1_length_2_4 : decode cX1_length_2 4 = .ok (.ireturn, 1) := by decide +kernel
abbrev cX1_sum : ByteArray := prog_1_method_8_code
def yX1_sum : MethodName := ⟨RX1, "sum", "()J"⟩
def dkwX1_sum_1 : List UInt8 := [132, 3, 1, 167, 255, 233, 31, 173]
abbrev dktX1_sum_1 : List UInt8 := dkwX1_sum_1 ++ []
def dkwX1_sum_0 : List UInt8 := [9, 64, 3, 62, 29, 16, 64, 162, 0, 23, 31, 20, 0, 25, 105, 42, 180, 0, 7, 29, 46, 133, 97, 64]
abbrev dktX1_sum_0 : List UInt8 := dkwX1_sum_0 ++ dktX1_sum_1
theorem dksX1_sum_0 : cX1_sum.data.toList.drop 0 = dktX1_sum_0 := by decide +kernel
theorem dksX1_sum_1 : cX1_sum.data.toList.drop 24 = dktX1_sum_1 := dk_seg dksX1_sum_0 24 rfl rfl
theorem dX1_sum_0 : decode cX1_sum 0 = .ok (.lconst 0, 1) := dk_9 (dk_at dksX1_sum_0 0 rfl rfl)
theorem dX1_sum_1 : decode cX1_sum 1 = .ok (.lstore_n 1, 1) := dk_64 (dk_at dksX1_sum_0 1 rfl rfl)
theorem dX1_sum_2 : decode cX1_sum 2 = .ok (.iconst 0, 1) := dk_3 (dk_at dksX1_sum_0 2 rfl rfl)
theorem dX1_sum_3 : decode cX1_sum 3 = .ok (.istore_n 3, 1) := dk_62 (dk_at dksX1_sum_0 3 rfl rfl)
theorem dX1_sum_4 : decode cX1_sum 4 = .ok (.iload_n 3, 1) := dk_29 (dk_at dksX1_sum_0 4 rfl rfl)
theorem dX1_sum_5 : decode cX1_sum 5 = .ok (.bipush 64, 2) := dk_16 64 (dk_at dksX1_sum_0 5 rfl rfl)
theorem dX1_sum_7 : decode cX1_sum 7 = .ok (.if_icmp .ge 23, 3) := dk_162 0 23 (dk_at dksX1_sum_0 7 rfl rfl)
theorem dX1_sum_10 : decode cX1_sum 10 = .ok (.lload_n 1, 1) := dk_31 (dk_at dksX1_sum_0 10 rfl rfl)
theorem dX1_sum_11 : decode cX1_sum 11 = .ok (.ldc2_w 25, 3) := dk_20 0 25 (dk_at dksX1_sum_0 11 rfl rfl)
theorem dX1_sum_14 : decode cX1_sum 14 = .ok (.lmul, 1) := dk_105 (dk_at dksX1_sum_0 14 rfl rfl)
theorem dX1_sum_15 : decode cX1_sum 15 = .ok (.aload_n 0, 1) := dk_42 (dk_at dksX1_sum_0 15 rfl rfl)
theorem dX1_sum_16 : decode cX1_sum 16 = .ok (.getfield 7, 3) := dk_180 0 7 (dk_at dksX1_sum_0 16 rfl rfl)
theorem dX1_sum_19 : decode cX1_sum 19 = .ok (.iload_n 3, 1) := dk_29 (dk_at dksX1_sum_0 19 rfl rfl)
theorem dX1_sum_20 : decode cX1_sum 20 = .ok (.iaload, 1) := dk_46 (dk_at dksX1_sum_0 20 rfl rfl)
theorem dX1_sum_21 : decode cX1_sum 21 = .ok (.i2l, 1) := dk_133 (dk_at dksX1_sum_0 21 rfl rfl)
theorem dX1_sum_22 : decode cX1_sum 22 = .ok (.ladd, 1) := dk_97 (dk_at dksX1_sum_0 22 rfl rfl)
theorem dX1_sum_23 : decode cX1_sum 23 = .ok (.lstore_n 1, 1) := dk_64 (dk_at dksX1_sum_0 23 rfl rfl)
theorem dX1_sum_24 : decode cX1_sum 24 = .ok (.iinc 3 1, 3) := dk_132 3 1 (dk_at dksX1_sum_1 0 rfl rfl)
theorem dX1_sum_27 : decode cX1_sum 27 = .ok (.goto (-23), 3) := dk_167 255 233 (dk_at dksX1_sum_1 3 rfl rfl)
theorem dX1_sum_30 : decode cX1_sum 30 = .ok (.lload_n 1, 1) := dk_31 (dk_at dksX1_sum_1 6 rfl rfl)
theorem dX1_sum_31 : decode cX1_sum 31 = .ok (.lreturn, 1) := dk_173 (dk_at dksX1_sum_1 7 rfl rfl)
theorem q1 : (Jvm.Cond.initialized "NetworkSort") ∈ lw_all := lw_g (lw_at lw_m0 1 rfl) rfl
theorem q4 : (Jvm.Cond.instantiable "NetworkSort" (2 : Nat)) ∈ lw_all := lw_g (lw_at lw_m0 4 rfl) rfl
theorem q6 : (Jvm.Cond.instanceMethod ({ cls := "NetworkSort", name := "<init>", desc := "()V" } : Jvm.MethodName)) ∈ lw_all := lw_g (lw_at lw_m0 6 rfl) rfl
theorem q7 : (Jvm.Cond.code ({ cls := "NetworkSort", name := "<init>", desc := "()V" } : Jvm.MethodName) prog_1_method_1_code (1 : Nat) (Option.none : Option Jvm.ClassFile.FieldType)) ∈ lw_all := lw_g (lw_at lw_m0 7 rfl) rfl
theorem q8 : (Jvm.Cond.methodLink "NetworkSort" (1 : Nat) ({ cls := "java/lang/Object", name := "<init>", desc := "()V" } : Jvm.MethodName)) ∈ lw_all := lw_g (lw_at lw_m0 8 rfl) rfl
theorem q11 : (Jvm.Cond.fieldLink "NetworkSort" (7 : Nat) "NetworkSort" "row" "[I") ∈ lw_all := lw_g (lw_at lw_m0 11 rfl) rfl
theorem q12 : (Jvm.Cond.fieldLink "NetworkSort" (13 : Nat) "NetworkSort" "length" "I") ∈ lw_all := lw_g (lw_at lw_m0 12 rfl) rfl
theorem q13 : (Jvm.Cond.laysFinal "NetworkSort" "NetworkSort" "row" "[I") ∈ lw_all := lw_g (lw_at lw_m0 13 rfl) rfl
theorem q14 : (Jvm.Cond.soleField "NetworkSort" "row") ∈ lw_all := lw_g (lw_at lw_m0 14 rfl) rfl
theorem q15 : (Jvm.Cond.lays "NetworkSort" "NetworkSort" "length" "I") ∈ lw_all := lw_g (lw_at lw_m0 15 rfl) rfl
theorem q16 : (Jvm.Cond.soleField "NetworkSort" "length") ∈ lw_all := lw_g (lw_at lw_m0 16 rfl) rfl
theorem q17 : (Jvm.Cond.superclass "NetworkSort" "java/lang/Object") ∈ lw_all := lw_g (lw_at lw_m0 17 rfl) rfl
theorem q20 : (Jvm.Cond.instanceMethod ({ cls := "NetworkSort", name := "set", desc := "(II)V" } : Jvm.MethodName)) ∈ lw_all := lw_g (lw_at lw_m0 20 rfl) rfl
theorem q21 : (Jvm.Cond.selects "NetworkSort" ({ cls := "NetworkSort", name := "set", desc := "(II)V" } : Jvm.MethodName) ({ cls := "NetworkSort", name := "set", desc := "(II)V" } : Jvm.MethodName)) ∈ lw_all := lw_g (lw_at lw_m0 21 rfl) rfl
theorem q22 : (Jvm.Cond.code ({ cls := "NetworkSort", name := "set", desc := "(II)V" } : Jvm.MethodName) prog_1_method_2_code (3 : Nat) (Option.none : Option Jvm.ClassFile.FieldType)) ∈ lw_all := lw_g (lw_at lw_m0 22 rfl) rfl
theorem q23 : (Jvm.Cond.constant "NetworkSort" (17 : Nat) (1073741823 : Int32)) ∈ lw_all := lw_g (lw_at lw_m0 23 rfl) rfl
theorem q25 : (Jvm.Cond.instanceMethod ({ cls := "NetworkSort", name := "fill", desc := "(II)V" } : Jvm.MethodName)) ∈ lw_all := lw_g (lw_at lw_m0 25 rfl) rfl
theorem q26 : (Jvm.Cond.selects "NetworkSort" ({ cls := "NetworkSort", name := "fill", desc := "(II)V" } : Jvm.MethodName) ({ cls := "NetworkSort", name := "fill", desc := "(II)V" } : Jvm.MethodName)) ∈ lw_all := lw_g (lw_at lw_m0 26 rfl) rfl
theorem q27 : (Jvm.Cond.code ({ cls := "NetworkSort", name := "fill", desc := "(II)V" } : Jvm.MethodName) prog_1_method_3_code (4 : Nat) (Option.none : Option Jvm.ClassFile.FieldType)) ∈ lw_all := lw_g (lw_at lw_m0 27 rfl) rfl
theorem q29 : (Jvm.Cond.instanceMethod ({ cls := "NetworkSort", name := "length", desc := "(I)V" } : Jvm.MethodName)) ∈ lw_all := lw_g (lw_at lw_m0 29 rfl) rfl
theorem q30 : (Jvm.Cond.selects "NetworkSort" ({ cls := "NetworkSort", name := "length", desc := "(I)V" } : Jvm.MethodName) ({ cls := "NetworkSort", name := "length", desc := "(I)V" } : Jvm.MethodName)) ∈ lw_all := lw_g (lw_at lw_m0 30 rfl) rfl
theorem q31 : (Jvm.Cond.code ({ cls := "NetworkSort", name := "length", desc := "(I)V" } : Jvm.MethodName) prog_1_method_4_code (2 : Nat) (Option.none : Option Jvm.ClassFile.FieldType)) ∈ lw_all := lw_g (lw_at lw_m0 31 rfl) rfl
theorem q32 : (Jvm.Cond.constant "NetworkSort" (18 : Nat) (2147483647 : Int32)) ∈ lw_all := lw_g (lw_at lw_m0 32 rfl) rfl
theorem q34 : (Jvm.Cond.instanceMethod ({ cls := "NetworkSort", name := "sort", desc := "()V" } : Jvm.MethodName)) ∈ lw_all := lw_g (lw_at lw_m0 34 rfl) rfl
theorem q35 : (Jvm.Cond.selects "NetworkSort" ({ cls := "NetworkSort", name := "sort", desc := "()V" } : Jvm.MethodName) ({ cls := "NetworkSort", name := "sort", desc := "()V" } : Jvm.MethodName)) ∈ lw_all := lw_g (lw_at lw_m0 35 rfl) rfl
theorem q36 : (Jvm.Cond.code ({ cls := "NetworkSort", name := "sort", desc := "()V" } : Jvm.MethodName) prog_1_method_5_code (1 : Nat) (Option.none : Option Jvm.ClassFile.FieldType)) ∈ lw_all := lw_g (lw_at lw_m0 36 rfl) rfl
theorem q37 : (Jvm.Cond.methodLink "NetworkSort" (19 : Nat) ({ cls := "Utils", name := "cryptoSort", desc := "([II)V" } : Jvm.MethodName)) ∈ lw_all := lw_g (lw_at lw_m0 37 rfl) rfl
theorem q59 : (Jvm.Cond.instanceMethod ({ cls := "NetworkSort", name := "get", desc := "(I)I" } : Jvm.MethodName)) ∈ lw_all := lw_g (lw_at lw_m0 59 rfl) rfl
theorem q60 : (Jvm.Cond.selects "NetworkSort" ({ cls := "NetworkSort", name := "get", desc := "(I)I" } : Jvm.MethodName) ({ cls := "NetworkSort", name := "get", desc := "(I)I" } : Jvm.MethodName)) ∈ lw_all := lw_g (lw_at lw_m0 60 rfl) rfl
theorem q61 : (Jvm.Cond.code ({ cls := "NetworkSort", name := "get", desc := "(I)I" } : Jvm.MethodName) prog_1_method_6_code (2 : Nat) (Option.some Jvm.ClassFile.FieldType.int)) ∈ lw_all := lw_g (lw_at lw_m0 61 rfl) rfl
theorem q64 : (Jvm.Cond.instanceMethod ({ cls := "NetworkSort", name := "length", desc := "()I" } : Jvm.MethodName)) ∈ lw_all := lw_g (lw_at lw_m0 64 rfl) rfl
theorem q65 : (Jvm.Cond.selects "NetworkSort" ({ cls := "NetworkSort", name := "length", desc := "()I" } : Jvm.MethodName) ({ cls := "NetworkSort", name := "length", desc := "()I" } : Jvm.MethodName)) ∈ lw_all := lw_g (lw_at lw_m0 65 rfl) rfl
theorem q66 : (Jvm.Cond.code ({ cls := "NetworkSort", name := "length", desc := "()I" } : Jvm.MethodName) prog_1_method_7_code (1 : Nat) (Option.some Jvm.ClassFile.FieldType.int)) ∈ lw_all := lw_g (lw_at lw_m0 66 rfl) rfl
theorem q68 : (Jvm.Cond.instanceMethod ({ cls := "NetworkSort", name := "sum", desc := "()J" } : Jvm.MethodName)) ∈ lw_all := lw_g (lw_at lw_m0 68 rfl) rfl
theorem q69 : (Jvm.Cond.selects "NetworkSort" ({ cls := "NetworkSort", name := "sum", desc := "()J" } : Jvm.MethodName) ({ cls := "NetworkSort", name := "sum", desc := "()J" } : Jvm.MethodName)) ∈ lw_all := lw_g (lw_at lw_m0 69 rfl) rfl
theorem q70 : (Jvm.Cond.code ({ cls := "NetworkSort", name := "sum", desc := "()J" } : Jvm.MethodName) prog_1_method_8_code (4 : Nat) (Option.some Jvm.ClassFile.FieldType.long)) ∈ lw_all := lw_g (lw_at lw_m0 70 rfl) rfl
theorem q71 : (Jvm.Cond.constantLong "NetworkSort" (25 : Nat) (31 : Int64)) ∈ lw_all := lw_g (lw_at lw_m0 71 rfl) rfl
theorem in_X1 : ∀ w ∈ wsX10, w ∈ lw_all := lw_in wsX10 [13, 15] (by decide +kernel) (by decide +kernel)
/-! NetworkSortLaw -/
set_option maxRecDepth 100000
def RX0 : String := "NetworkSortLaw"
abbrev cX0_cell : ByteArray := method_2_code
def yX0_cell : MethodName := ⟨RX0, "cell", "([II)I"⟩
def dkwX0_cell_0 : List UInt8 := [27, 42, 190, 162, 0, 9, 42, 27, 46, 167, 0, 4, 3, 172]
abbrev dktX0_cell_0 : List UInt8 := dkwX0_cell_0 ++ []
theorem dksX0_cell_0 : cX0_cell.data.toList.drop 0 = dktX0_cell_0 := by decide +kernel
theorem dX0_cell_0 : decode cX0_cell 0 = .ok (.iload_n 1, 1) := dk_27 (dk_at dksX0_cell_0 0 rfl rfl)
theorem dX0_cell_1 : decode cX0_cell 1 = .ok (.aload_n 0, 1) := dk_42 (dk_at dksX0_cell_0 1 rfl rfl)
theorem dX0_cell_2 : decode cX0_cell 2 = .ok (.arraylength, 1) := dk_190 (dk_at dksX0_cell_0 2 rfl rfl)
theorem dX0_cell_3 : decode cX0_cell 3 = .ok (.if_icmp .ge 9, 3) := dk_162 0 9 (dk_at dksX0_cell_0 3 rfl rfl)
theorem dX0_cell_6 : decode cX0_cell 6 = .ok (.aload_n 0, 1) := dk_42 (dk_at dksX0_cell_0 6 rfl rfl)
theorem dX0_cell_7 : decode cX0_cell 7 = .ok (.iload_n 1, 1) := dk_27 (dk_at dksX0_cell_0 7 rfl rfl)
theorem dX0_cell_8 : decode cX0_cell 8 = .ok (.iaload, 1) := dk_46 (dk_at dksX0_cell_0 8 rfl rfl)
theorem dX0_cell_9 : decode cX0_cell 9 = .ok (.goto 4, 3) := dk_167 0 4 (dk_at dksX0_cell_0 9 rfl rfl)
theorem dX0_cell_12 : decode cX0_cell 12 = .ok (.iconst 0, 1) := dk_3 (dk_at dksX0_cell_0 12 rfl rfl)
theorem dX0_cell_13 : decode cX0_cell 13 = .ok (.ireturn, 1) := dk_172 (dk_at dksX0_cell_0 13 rfl rfl)
abbrev cX0_cut : ByteArray := method_3_code
def yX0_cut : MethodName := ⟨RX0, "cut", "(I)I"⟩
def dkwX0_cut_0 : List UInt8 := [26, 18, 7, 126, 172]
abbrev dktX0_cut_0 : List UInt8 := dkwX0_cut_0 ++ []
theorem dksX0_cut_0 : cX0_cut.data.toList.drop 0 = dktX0_cut_0 := by decide +kernel
theorem dX0_cut_0 : decode cX0_cut 0 = .ok (.iload_n 0, 1) := dk_26 (dk_at dksX0_cut_0 0 rfl rfl)
theorem dX0_cut_1 : decode cX0_cut 1 = .ok (.ldc 7, 2) := dk_18 7 (dk_at dksX0_cut_0 1 rfl rfl)
theorem dX0_cut_3 : decode cX0_cut 3 = .ok (.iand, 1) := dk_126 (dk_at dksX0_cut_0 3 rfl rfl)
theorem dX0_cut_4 : decode cX0_cut 4 = .ok (.ireturn, 1) := dk_172 (dk_at dksX0_cut_0 4 rfl rfl)
abbrev cX0_plainly : ByteArray := method_4_code
def yX0_plainly : MethodName := ⟨RX0, "plainly", "([II)V"⟩
def dkwX0_plainly_2 : List UInt8 := [29, 79, 132, 2, 1, 167, 255, 205, 177]
abbrev dktX0_plainly_2 : List UInt8 := dkwX0_plainly_2 ++ []
def dkwX0_plainly_1 : List UInt8 := [46, 29, 164, 0, 19, 42, 21, 4, 42, 21, 4, 4, 100, 46, 79, 132, 4, 255, 167, 255, 228, 42, 21, 4]
abbrev dktX0_plainly_1 : List UInt8 := dkwX0_plainly_1 ++ dktX0_plainly_2
def dkwX0_plainly_0 : List UInt8 := [4, 61, 28, 27, 162, 0, 52, 42, 28, 46, 62, 28, 54, 4, 21, 4, 158, 0, 29, 42, 21, 4, 4, 100]
abbrev dktX0_plainly_0 : List UInt8 := dkwX0_plainly_0 ++ dktX0_plainly_1
theorem dksX0_plainly_0 : cX0_plainly.data.toList.drop 0 = dktX0_plainly_0 := by decide +kernel
theorem dksX0_plainly_1 : cX0_plainly.data.toList.drop 24 = dktX0_plainly_1 := dk_seg dksX0_plainly_0 24 rfl rfl
theorem dksX0_plainly_2 : cX0_plainly.data.toList.drop 48 = dktX0_plainly_2 := dk_seg dksX0_plainly_1 24 rfl rfl
theorem dX0_plainly_0 : decode cX0_plainly 0 = .ok (.iconst 1, 1) := dk_4 (dk_at dksX0_plainly_0 0 rfl rfl)
theorem dX0_plainly_1 : decode cX0_plainly 1 = .ok (.istore_n 2, 1) := dk_61 (dk_at dksX0_plainly_0 1 rfl rfl)
theorem dX0_plainly_2 : decode cX0_plainly 2 = .ok (.iload_n 2, 1) := dk_28 (dk_at dksX0_plainly_0 2 rfl rfl)
theorem dX0_plainly_3 : decode cX0_plainly 3 = .ok (.iload_n 1, 1) := dk_27 (dk_at dksX0_plainly_0 3 rfl rfl)
theorem dX0_plainly_4 : decode cX0_plainly 4 = .ok (.if_icmp .ge 52, 3) := dk_162 0 52 (dk_at dksX0_plainly_0 4 rfl rfl)
theorem dX0_plainly_7 : decode cX0_plainly 7 = .ok (.aload_n 0, 1) := dk_42 (dk_at dksX0_plainly_0 7 rfl rfl)
theorem dX0_plainly_8 : decode cX0_plainly 8 = .ok (.iload_n 2, 1) := dk_28 (dk_at dksX0_plainly_0 8 rfl rfl)
theorem dX0_plainly_9 : decode cX0_plainly 9 = .ok (.iaload, 1) := dk_46 (dk_at dksX0_plainly_0 9 rfl rfl)
theorem dX0_plainly_10 : decode cX0_plainly 10 = .ok (.istore_n 3, 1) := dk_62 (dk_at dksX0_plainly_0 10 rfl rfl)
theorem dX0_plainly_11 : decode cX0_plainly 11 = .ok (.iload_n 2, 1) := dk_28 (dk_at dksX0_plainly_0 11 rfl rfl)
theorem dX0_plainly_12 : decode cX0_plainly 12 = .ok (.istore 4, 2) := dk_54 4 (dk_at dksX0_plainly_0 12 rfl rfl)
theorem dX0_plainly_14 : decode cX0_plainly 14 = .ok (.iload 4, 2) := dk_21 4 (dk_at dksX0_plainly_0 14 rfl rfl)
theorem dX0_plainly_16 : decode cX0_plainly 16 = .ok (.ifCond .le 29, 3) := dk_158 0 29 (dk_at dksX0_plainly_0 16 rfl rfl)
theorem dX0_plainly_19 : decode cX0_plainly 19 = .ok (.aload_n 0, 1) := dk_42 (dk_at dksX0_plainly_0 19 rfl rfl)
theorem dX0_plainly_20 : decode cX0_plainly 20 = .ok (.iload 4, 2) := dk_21 4 (dk_at dksX0_plainly_0 20 rfl rfl)
theorem dX0_plainly_22 : decode cX0_plainly 22 = .ok (.iconst 1, 1) := dk_4 (dk_at dksX0_plainly_0 22 rfl rfl)
theorem dX0_plainly_23 : decode cX0_plainly 23 = .ok (.isub, 1) := dk_100 (dk_at dksX0_plainly_0 23 rfl rfl)
theorem dX0_plainly_24 : decode cX0_plainly 24 = .ok (.iaload, 1) := dk_46 (dk_at dksX0_plainly_1 0 rfl rfl)
theorem dX0_plainly_25 : decode cX0_plainly 25 = .ok (.iload_n 3, 1) := dk_29 (dk_at dksX0_plainly_1 1 rfl rfl)
theorem dX0_plainly_26 : decode cX0_plainly 26 = .ok (.if_icmp .le 19, 3) := dk_164 0 19 (dk_at dksX0_plainly_1 2 rfl rfl)
theorem dX0_plainly_29 : decode cX0_plainly 29 = .ok (.aload_n 0, 1) := dk_42 (dk_at dksX0_plainly_1 5 rfl rfl)
theorem dX0_plainly_30 : decode cX0_plainly 30 = .ok (.iload 4, 2) := dk_21 4 (dk_at dksX0_plainly_1 6 rfl rfl)
theorem dX0_plainly_32 : decode cX0_plainly 32 = .ok (.aload_n 0, 1) := dk_42 (dk_at dksX0_plainly_1 8 rfl rfl)
theorem dX0_plainly_33 : decode cX0_plainly 33 = .ok (.iload 4, 2) := dk_21 4 (dk_at dksX0_plainly_1 9 rfl rfl)
theorem dX0_plainly_35 : decode cX0_plainly 35 = .ok (.iconst 1, 1) := dk_4 (dk_at dksX0_plainly_1 11 rfl rfl)
theorem dX0_plainly_36 : decode cX0_plainly 36 = .ok (.isub, 1) := dk_100 (dk_at dksX0_plainly_1 12 rfl rfl)
theorem dX0_plainly_37 : decode cX0_plainly 37 = .ok (.iaload, 1) := dk_46 (dk_at dksX0_plainly_1 13 rfl rfl)
theorem dX0_plainly_38 : decode cX0_plainly 38 = .ok (.iastore, 1) := dk_79 (dk_at dksX0_plainly_1 14 rfl rfl)
theorem dX0_plainly_39 : decode cX0_plainly 39 = .ok (.iinc 4 (-1), 3) := dk_132 4 255 (dk_at dksX0_plainly_1 15 rfl rfl)
theorem dX0_plainly_42 : decode cX0_plainly 42 = .ok (.goto (-28), 3) := dk_167 255 228 (dk_at dksX0_plainly_1 18 rfl rfl)
theorem dX0_plainly_45 : decode cX0_plainly 45 = .ok (.aload_n 0, 1) := dk_42 (dk_at dksX0_plainly_1 21 rfl rfl)
theorem dX0_plainly_46 : decode cX0_plainly 46 = .ok (.iload 4, 2) := dk_21 4 (dk_at dksX0_plainly_1 22 rfl rfl)
theorem dX0_plainly_48 : decode cX0_plainly 48 = .ok (.iload_n 3, 1) := dk_29 (dk_at dksX0_plainly_2 0 rfl rfl)
theorem dX0_plainly_49 : decode cX0_plainly 49 = .ok (.iastore, 1) := dk_79 (dk_at dksX0_plainly_2 1 rfl rfl)
theorem dX0_plainly_50 : decode cX0_plainly 50 = .ok (.iinc 2 1, 3) := dk_132 2 1 (dk_at dksX0_plainly_2 2 rfl rfl)
theorem dX0_plainly_53 : decode cX0_plainly 53 = .ok (.goto (-51), 3) := dk_167 255 205 (dk_at dksX0_plainly_2 5 rfl rfl)
theorem dX0_plainly_56 : decode cX0_plainly 56 = .ok (.return_, 1) := dk_177 (dk_at dksX0_plainly_2 8 rfl rfl)
abbrev cX0_stands : ByteArray := method_5_code
def yX0_stands : MethodName := ⟨RX0, "stands", "(LNetworkSort;[II)Z"⟩
def dkwX0_stands_4 : List UInt8 := [167, 0, 4, 3, 172]
abbrev dktX0_stands_4 : List UInt8 := dkwX0_stands_4 ++ []
def dkwX0_stands_3 : List UInt8 := [132, 5, 1, 167, 255, 187, 42, 182, 0, 17, 28, 160, 0, 16, 42, 182, 0, 21, 33, 148, 154, 0, 7, 4]
abbrev dktX0_stands_3 : List UInt8 := dkwX0_stands_3 ++ dktX0_stands_4
def dkwX0_stands_2 : List UInt8 := [21, 5, 46, 160, 0, 19, 42, 21, 5, 18, 16, 96, 182, 0, 10, 43, 21, 5, 46, 159, 0, 5, 3, 172]
abbrev dktX0_stands_2 : List UInt8 := dkwX0_stands_2 ++ dktX0_stands_3
def dkwX0_stands_1 : List UInt8 := [42, 21, 5, 182, 0, 10, 43, 21, 5, 46, 160, 0, 35, 42, 21, 5, 16, 64, 100, 182, 0, 10, 43]
abbrev dktX0_stands_1 : List UInt8 := dkwX0_stands_1 ++ dktX0_stands_2
def dkwX0_stands_0 : List UInt8 := [9, 66, 3, 54, 5, 21, 5, 16, 64, 162, 0, 68, 33, 20, 0, 8, 105, 43, 21, 5, 46, 133, 97, 66]
abbrev dktX0_stands_0 : List UInt8 := dkwX0_stands_0 ++ dktX0_stands_1
theorem dksX0_stands_0 : cX0_stands.data.toList.drop 0 = dktX0_stands_0 := by decide +kernel
theorem dksX0_stands_1 : cX0_stands.data.toList.drop 24 = dktX0_stands_1 := dk_seg dksX0_stands_0 24 rfl rfl
theorem dksX0_stands_2 : cX0_stands.data.toList.drop 47 = dktX0_stands_2 := dk_seg dksX0_stands_1 23 rfl rfl
theorem dksX0_stands_3 : cX0_stands.data.toList.drop 71 = dktX0_stands_3 := dk_seg dksX0_stands_2 24 rfl rfl
theorem dksX0_stands_4 : cX0_stands.data.toList.drop 95 = dktX0_stands_4 := dk_seg dksX0_stands_3 24 rfl rfl
theorem dX0_stands_0 : decode cX0_stands 0 = .ok (.lconst 0, 1) := dk_9 (dk_at dksX0_stands_0 0 rfl rfl)
theorem dX0_stands_1 : decode cX0_stands 1 = .ok (.lstore_n 3, 1) := dk_66 (dk_at dksX0_stands_0 1 rfl rfl)
theorem dX0_stands_2 : decode cX0_stands 2 = .ok (.iconst 0, 1) := dk_3 (dk_at dksX0_stands_0 2 rfl rfl)
theorem dX0_stands_3 : decode cX0_stands 3 = .ok (.istore 5, 2) := dk_54 5 (dk_at dksX0_stands_0 3 rfl rfl)
theorem dX0_stands_5 : decode cX0_stands 5 = .ok (.iload 5, 2) := dk_21 5 (dk_at dksX0_stands_0 5 rfl rfl)
theorem dX0_stands_7 : decode cX0_stands 7 = .ok (.bipush 64, 2) := dk_16 64 (dk_at dksX0_stands_0 7 rfl rfl)
theorem dX0_stands_9 : decode cX0_stands 9 = .ok (.if_icmp .ge 68, 3) := dk_162 0 68 (dk_at dksX0_stands_0 9 rfl rfl)
theorem dX0_stands_12 : decode cX0_stands 12 = .ok (.lload_n 3, 1) := dk_33 (dk_at dksX0_stands_0 12 rfl rfl)
theorem dX0_stands_13 : decode cX0_stands 13 = .ok (.ldc2_w 8, 3) := dk_20 0 8 (dk_at dksX0_stands_0 13 rfl rfl)
theorem dX0_stands_16 : decode cX0_stands 16 = .ok (.lmul, 1) := dk_105 (dk_at dksX0_stands_0 16 rfl rfl)
theorem dX0_stands_17 : decode cX0_stands 17 = .ok (.aload_n 1, 1) := dk_43 (dk_at dksX0_stands_0 17 rfl rfl)
theorem dX0_stands_18 : decode cX0_stands 18 = .ok (.iload 5, 2) := dk_21 5 (dk_at dksX0_stands_0 18 rfl rfl)
theorem dX0_stands_20 : decode cX0_stands 20 = .ok (.iaload, 1) := dk_46 (dk_at dksX0_stands_0 20 rfl rfl)
theorem dX0_stands_21 : decode cX0_stands 21 = .ok (.i2l, 1) := dk_133 (dk_at dksX0_stands_0 21 rfl rfl)
theorem dX0_stands_22 : decode cX0_stands 22 = .ok (.ladd, 1) := dk_97 (dk_at dksX0_stands_0 22 rfl rfl)
theorem dX0_stands_23 : decode cX0_stands 23 = .ok (.lstore_n 3, 1) := dk_66 (dk_at dksX0_stands_0 23 rfl rfl)
theorem dX0_stands_24 : decode cX0_stands 24 = .ok (.aload_n 0, 1) := dk_42 (dk_at dksX0_stands_1 0 rfl rfl)
theorem dX0_stands_25 : decode cX0_stands 25 = .ok (.iload 5, 2) := dk_21 5 (dk_at dksX0_stands_1 1 rfl rfl)
theorem dX0_stands_27 : decode cX0_stands 27 = .ok (.invokevirtual 10, 3) := dk_182 0 10 (dk_at dksX0_stands_1 3 rfl rfl)
theorem dX0_stands_30 : decode cX0_stands 30 = .ok (.aload_n 1, 1) := dk_43 (dk_at dksX0_stands_1 6 rfl rfl)
theorem dX0_stands_31 : decode cX0_stands 31 = .ok (.iload 5, 2) := dk_21 5 (dk_at dksX0_stands_1 7 rfl rfl)
theorem dX0_stands_33 : decode cX0_stands 33 = .ok (.iaload, 1) := dk_46 (dk_at dksX0_stands_1 9 rfl rfl)
theorem dX0_stands_34 : decode cX0_stands 34 = .ok (.if_icmp .ne 35, 3) := dk_160 0 35 (dk_at dksX0_stands_1 10 rfl rfl)
theorem dX0_stands_37 : decode cX0_stands 37 = .ok (.aload_n 0, 1) := dk_42 (dk_at dksX0_stands_1 13 rfl rfl)
theorem dX0_stands_38 : decode cX0_stands 38 = .ok (.iload 5, 2) := dk_21 5 (dk_at dksX0_stands_1 14 rfl rfl)
theorem dX0_stands_40 : decode cX0_stands 40 = .ok (.bipush 64, 2) := dk_16 64 (dk_at dksX0_stands_1 16 rfl rfl)
theorem dX0_stands_42 : decode cX0_stands 42 = .ok (.isub, 1) := dk_100 (dk_at dksX0_stands_1 18 rfl rfl)
theorem dX0_stands_43 : decode cX0_stands 43 = .ok (.invokevirtual 10, 3) := dk_182 0 10 (dk_at dksX0_stands_1 19 rfl rfl)
theorem dX0_stands_46 : decode cX0_stands 46 = .ok (.aload_n 1, 1) := dk_43 (dk_at dksX0_stands_1 22 rfl rfl)
theorem dX0_stands_47 : decode cX0_stands 47 = .ok (.iload 5, 2) := dk_21 5 (dk_at dksX0_stands_2 0 rfl rfl)
theorem dX0_stands_49 : decode cX0_stands 49 = .ok (.iaload, 1) := dk_46 (dk_at dksX0_stands_2 2 rfl rfl)
theorem dX0_stands_50 : decode cX0_stands 50 = .ok (.if_icmp .ne 19, 3) := dk_160 0 19 (dk_at dksX0_stands_2 3 rfl rfl)
theorem dX0_stands_53 : decode cX0_stands 53 = .ok (.aload_n 0, 1) := dk_42 (dk_at dksX0_stands_2 6 rfl rfl)
theorem dX0_stands_54 : decode cX0_stands 54 = .ok (.iload 5, 2) := dk_21 5 (dk_at dksX0_stands_2 7 rfl rfl)
theorem dX0_stands_56 : decode cX0_stands 56 = .ok (.ldc 16, 2) := dk_18 16 (dk_at dksX0_stands_2 9 rfl rfl)
theorem dX0_stands_58 : decode cX0_stands 58 = .ok (.iadd, 1) := dk_96 (dk_at dksX0_stands_2 11 rfl rfl)
theorem dX0_stands_59 : decode cX0_stands 59 = .ok (.invokevirtual 10, 3) := dk_182 0 10 (dk_at dksX0_stands_2 12 rfl rfl)
theorem dX0_stands_62 : decode cX0_stands 62 = .ok (.aload_n 1, 1) := dk_43 (dk_at dksX0_stands_2 15 rfl rfl)
theorem dX0_stands_63 : decode cX0_stands 63 = .ok (.iload 5, 2) := dk_21 5 (dk_at dksX0_stands_2 16 rfl rfl)
theorem dX0_stands_65 : decode cX0_stands 65 = .ok (.iaload, 1) := dk_46 (dk_at dksX0_stands_2 18 rfl rfl)
theorem dX0_stands_66 : decode cX0_stands 66 = .ok (.if_icmp .eq 5, 3) := dk_159 0 5 (dk_at dksX0_stands_2 19 rfl rfl)
theorem dX0_stands_69 : decode cX0_stands 69 = .ok (.iconst 0, 1) := dk_3 (dk_at dksX0_stands_2 22 rfl rfl)
theorem dX0_stands_70 : decode cX0_stands 70 = .ok (.ireturn, 1) := dk_172 (dk_at dksX0_stands_2 23 rfl rfl)
theorem dX0_stands_71 : decode cX0_stands 71 = .ok (.iinc 5 1, 3) := dk_132 5 1 (dk_at dksX0_stands_3 0 rfl rfl)
theorem dX0_stands_74 : decode cX0_stands 74 = .ok (.goto (-69), 3) := dk_167 255 187 (dk_at dksX0_stands_3 3 rfl rfl)
theorem dX0_stands_77 : decode cX0_stands 77 = .ok (.aload_n 0, 1) := dk_42 (dk_at dksX0_stands_3 6 rfl rfl)
theorem dX0_stands_78 : decode cX0_stands 78 = .ok (.invokevirtual 17, 3) := dk_182 0 17 (dk_at dksX0_stands_3 7 rfl rfl)
theorem dX0_stands_81 : decode cX0_stands 81 = .ok (.iload_n 2, 1) := dk_28 (dk_at dksX0_stands_3 10 rfl rfl)
theorem dX0_stands_82 : decode cX0_stands 82 = .ok (.if_icmp .ne 16, 3) := dk_160 0 16 (dk_at dksX0_stands_3 11 rfl rfl)
theorem dX0_stands_85 : decode cX0_stands 85 = .ok (.aload_n 0, 1) := dk_42 (dk_at dksX0_stands_3 14 rfl rfl)
theorem dX0_stands_86 : decode cX0_stands 86 = .ok (.invokevirtual 21, 3) := dk_182 0 21 (dk_at dksX0_stands_3 15 rfl rfl)
theorem dX0_stands_89 : decode cX0_stands 89 = .ok (.lload_n 3, 1) := dk_33 (dk_at dksX0_stands_3 18 rfl rfl)
theorem dX0_stands_90 : decode cX0_stands 90 = .ok (.lcmp, 1) := dk_148 (dk_at dksX0_stands_3 19 rfl rfl)
theorem dX0_stands_91 : decode cX0_stands 91 = .ok (.ifCond .ne 7, 3) := dk_154 0 7 (dk_at dksX0_stands_3 20 rfl rfl)
theorem dX0_stands_94 : decode cX0_stands 94 = .ok (.iconst 1, 1) := dk_4 (dk_at dksX0_stands_3 23 rfl rfl)
theorem dX0_stands_95 : decode cX0_stands 95 = .ok (.goto 4, 3) := dk_167 0 4 (dk_at dksX0_stands_4 0 rfl rfl)
theorem dX0_stands_98 : decode cX0_stands 98 = .ok (.iconst 0, 1) := dk_3 (dk_at dksX0_stands_4 3 rfl rfl)
theorem dX0_stands_99 : decode cX0_stands 99 = .ok (.ireturn, 1) := dk_172 (dk_at dksX0_stands_4 4 rfl rfl)
theorem q0 : (Jvm.Cond.initialized "NetworkSortLaw") ∈ lw_all := lw_g (lw_at lw_m0 0 rfl) rfl
theorem q3 : (Jvm.Cond.classLink "NetworkSortLaw" (11 : Nat) "NetworkSort") ∈ lw_all := lw_g (lw_at lw_m0 3 rfl) rfl
theorem q5 : (Jvm.Cond.methodLink "NetworkSortLaw" (25 : Nat) ({ cls := "NetworkSort", name := "<init>", desc := "()V" } : Jvm.MethodName)) ∈ lw_all := lw_g (lw_at lw_m0 5 rfl) rfl
theorem q19 : (Jvm.Cond.methodLink "NetworkSortLaw" (36 : Nat) ({ cls := "NetworkSort", name := "set", desc := "(II)V" } : Jvm.MethodName)) ∈ lw_all := lw_g (lw_at lw_m0 19 rfl) rfl
theorem q24 : (Jvm.Cond.methodLink "NetworkSortLaw" (47 : Nat) ({ cls := "NetworkSort", name := "fill", desc := "(II)V" } : Jvm.MethodName)) ∈ lw_all := lw_g (lw_at lw_m0 24 rfl) rfl
theorem q28 : (Jvm.Cond.methodLink "NetworkSortLaw" (43 : Nat) ({ cls := "NetworkSort", name := "length", desc := "(I)V" } : Jvm.MethodName)) ∈ lw_all := lw_g (lw_at lw_m0 28 rfl) rfl
theorem q33 : (Jvm.Cond.methodLink "NetworkSortLaw" (50 : Nat) ({ cls := "NetworkSort", name := "sort", desc := "()V" } : Jvm.MethodName)) ∈ lw_all := lw_g (lw_at lw_m0 33 rfl) rfl
theorem q44 : (Jvm.Cond.methodLink "NetworkSortLaw" (32 : Nat) ({ cls := "NetworkSortLaw", name := "cell", desc := "([II)I" } : Jvm.MethodName)) ∈ lw_all := lw_g (lw_at lw_m0 44 rfl) rfl
theorem q45 : (Jvm.Cond.static ({ cls := "NetworkSortLaw", name := "cell", desc := "([II)I" } : Jvm.MethodName)) ∈ lw_all := lw_g (lw_at lw_m0 45 rfl) rfl
theorem q46 : (Jvm.Cond.code ({ cls := "NetworkSortLaw", name := "cell", desc := "([II)I" } : Jvm.MethodName) method_2_code (2 : Nat) (Option.some Jvm.ClassFile.FieldType.int)) ∈ lw_all := lw_g (lw_at lw_m0 46 rfl) rfl
theorem q47 : (Jvm.Cond.methodLink "NetworkSortLaw" (40 : Nat) ({ cls := "NetworkSortLaw", name := "cut", desc := "(I)I" } : Jvm.MethodName)) ∈ lw_all := lw_g (lw_at lw_m0 47 rfl) rfl
theorem q48 : (Jvm.Cond.static ({ cls := "NetworkSortLaw", name := "cut", desc := "(I)I" } : Jvm.MethodName)) ∈ lw_all := lw_g (lw_at lw_m0 48 rfl) rfl
theorem q49 : (Jvm.Cond.code ({ cls := "NetworkSortLaw", name := "cut", desc := "(I)I" } : Jvm.MethodName) method_3_code (1 : Nat) (Option.some Jvm.ClassFile.FieldType.int)) ∈ lw_all := lw_g (lw_at lw_m0 49 rfl) rfl
theorem q50 : (Jvm.Cond.constant "NetworkSortLaw" (7 : Nat) (1073741823 : Int32)) ∈ lw_all := lw_g (lw_at lw_m0 50 rfl) rfl
theorem q51 : (Jvm.Cond.methodLink "NetworkSortLaw" (53 : Nat) ({ cls := "NetworkSortLaw", name := "plainly", desc := "([II)V" } : Jvm.MethodName)) ∈ lw_all := lw_g (lw_at lw_m0 51 rfl) rfl
theorem q52 : (Jvm.Cond.static ({ cls := "NetworkSortLaw", name := "plainly", desc := "([II)V" } : Jvm.MethodName)) ∈ lw_all := lw_g (lw_at lw_m0 52 rfl) rfl
theorem q53 : (Jvm.Cond.code ({ cls := "NetworkSortLaw", name := "plainly", desc := "([II)V" } : Jvm.MethodName) method_4_code (5 : Nat) (Option.none : Option Jvm.ClassFile.FieldType)) ∈ lw_all := lw_g (lw_at lw_m0 53 rfl) rfl
theorem q54 : (Jvm.Cond.methodLink "NetworkSortLaw" (26 : Nat) ({ cls := "NetworkSortLaw", name := "stands", desc := "(LNetworkSort;[II)Z" } : Jvm.MethodName)) ∈ lw_all := lw_g (lw_at lw_m0 54 rfl) rfl
theorem q55 : (Jvm.Cond.static ({ cls := "NetworkSortLaw", name := "stands", desc := "(LNetworkSort;[II)Z" } : Jvm.MethodName)) ∈ lw_all := lw_g (lw_at lw_m0 55 rfl) rfl
theorem q56 : (Jvm.Cond.code ({ cls := "NetworkSortLaw", name := "stands", desc := "(LNetworkSort;[II)Z" } : Jvm.MethodName) method_5_code (6 : Nat) (Option.some Jvm.ClassFile.FieldType.boolean)) ∈ lw_all := lw_g (lw_at lw_m0 56 rfl) rfl
theorem q57 : (Jvm.Cond.constantLong "NetworkSortLaw" (8 : Nat) (31 : Int64)) ∈ lw_all := lw_g (lw_at lw_m0 57 rfl) rfl
theorem q58 : (Jvm.Cond.methodLink "NetworkSortLaw" (10 : Nat) ({ cls := "NetworkSort", name := "get", desc := "(I)I" } : Jvm.MethodName)) ∈ lw_all := lw_g (lw_at lw_m0 58 rfl) rfl
theorem q62 : (Jvm.Cond.constant "NetworkSortLaw" (16 : Nat) (2147483584 : Int32)) ∈ lw_all := lw_g (lw_at lw_m0 62 rfl) rfl
theorem q63 : (Jvm.Cond.methodLink "NetworkSortLaw" (17 : Nat) ({ cls := "NetworkSort", name := "length", desc := "()I" } : Jvm.MethodName)) ∈ lw_all := lw_g (lw_at lw_m0 63 rfl) rfl
theorem q67 : (Jvm.Cond.methodLink "NetworkSortLaw" (21 : Nat) ({ cls := "NetworkSort", name := "sum", desc := "()J" } : Jvm.MethodName)) ∈ lw_all := lw_g (lw_at lw_m0 67 rfl) rfl
theorem q72 : (Jvm.Cond.constant "NetworkSortLaw" (46 : Nat) (2147483647 : Int32)) ∈ lw_all := lw_g (lw_at lw_m0 72 rfl) rfl
/-! the law's own entry -/
set_option maxRecDepth 100000
abbrev cL_law : ByteArray := code
def dkwL_law_17 : List UInt8 := [172]
abbrev dktL_law_17 : List UInt8 := dkwL_law_17 ++ []
def dkwL_law_16 : List UInt8 := [21, 4, 5, 100, 182, 0, 43, 43, 182, 0, 50, 132, 4, 1, 167, 255, 234, 43, 44, 16, 64, 184, 0, 26]
abbrev dktL_law_16 : List UInt8 := dkwL_law_16 ++ dktL_law_17
def dkwL_law_15 : List UInt8 := [43, 44, 16, 64, 184, 0, 26, 154, 0, 5, 3, 172, 5, 54, 4, 21, 4, 16, 64, 163, 0, 21, 43]
abbrev dktL_law_15 : List UInt8 := dkwL_law_15 ++ dktL_law_16
def dkwL_law_14 : List UInt8 := [3, 172, 132, 4, 2, 167, 255, 19, 43, 16, 62, 182, 0, 43, 43, 182, 0, 50, 44, 16, 64, 184, 0, 53]
abbrev dktL_law_14 : List UInt8 := dkwL_law_14 ++ dktL_law_15
def dkwL_law_13 : List UInt8 := [184, 0, 53, 167, 0, 12, 43, 182, 0, 50, 44, 29, 184, 0, 53, 43, 44, 29, 184, 0, 26, 154, 0, 5]
abbrev dktL_law_13 : List UInt8 := dkwL_law_13 ++ dktL_law_14
def dkwL_law_12 : List UInt8 := [43, 21, 6, 182, 0, 43, 5, 21, 6, 18, 46, 126, 16, 63, 112, 96, 62, 43, 182, 0, 50, 44, 29]
abbrev dktL_law_12 : List UInt8 := dkwL_law_12 ++ dktL_law_13
def dkwL_law_11 : List UInt8 := [21, 5, 6, 122, 182, 0, 36, 44, 21, 6, 16, 63, 126, 21, 5, 6, 122, 184, 0, 40, 79, 167, 0, 41]
abbrev dktL_law_11 : List UInt8 := dkwL_law_11 ++ dktL_law_12
def dkwL_law_10 : List UInt8 := [6, 122, 21, 6, 21, 7, 104, 96, 184, 0, 40, 79, 132, 7, 1, 167, 255, 229, 167, 0, 68, 43, 21, 6]
abbrev dktL_law_10 : List UInt8 := dkwL_law_10 ++ dktL_law_11
def dkwL_law_9 : List UInt8 := [21, 5, 6, 122, 21, 6, 182, 0, 47, 3, 54, 7, 21, 7, 16, 64, 162, 0, 26, 44, 21, 7, 21, 5]
abbrev dktL_law_9 : List UInt8 := dkwL_law_9 ++ dktL_law_10
def dkwL_law_8 : List UInt8 := [122, 21, 6, 182, 0, 36, 44, 21, 5, 6, 122, 16, 63, 126, 21, 6, 184, 0, 40, 79, 167, 0, 114, 43]
abbrev dktL_law_8 : List UInt8 := dkwL_law_8 ++ dktL_law_9
def dkwL_law_7 : List UInt8 := [43, 21, 6, 182, 0, 43, 5, 21, 6, 18, 46, 126, 16, 63, 112, 96, 62, 167, 0, 141, 43, 21, 5, 6]
abbrev dktL_law_7 : List UInt8 := dkwL_law_7 ++ dktL_law_8
def dkwL_law_6 : List UInt8 := [170, 0, 0, 0, 0, 0, 184, 0, 0, 0, 3, 0, 0, 0, 7, 0, 0, 0, 35, 0, 0, 0, 55, 0, 0, 0, 82, 0, 0, 0, 128, 0, 0, 0, 155]
abbrev dktL_law_6 : List UInt8 := dkwL_law_6 ++ dktL_law_7
def dkwL_law_5 : List UInt8 := [16, 7, 126]
abbrev dktL_law_5 : List UInt8 := dkwL_law_5 ++ dktL_law_6
def dkwL_law_4 : List UInt8 := [162, 0, 236, 42, 21, 4, 184, 0, 32, 54, 5, 42, 21, 4, 4, 96, 184, 0, 32, 54, 6, 21, 5]
abbrev dktL_law_4 : List UInt8 := dkwL_law_4 ++ dktL_law_5
def dkwL_law_3 : List UInt8 := [167, 255, 217, 43, 44, 29, 184, 0, 26, 154, 0, 5, 3, 172, 16, 64, 54, 4, 21, 4, 16, 96]
abbrev dktL_law_3 : List UInt8 := dkwL_law_3 ++ dktL_law_4
def dkwL_law_2 : List UInt8 := [21, 4, 184, 0, 32, 182, 0, 36, 44, 21, 4, 42, 21, 4, 184, 0, 32, 184, 0, 40, 79, 132, 4, 1]
abbrev dktL_law_2 : List UInt8 := dkwL_law_2 ++ dktL_law_3
def dkwL_law_1 : List UInt8 := [154, 0, 5, 3, 172, 3, 54, 4, 21, 4, 16, 64, 162, 0, 38, 43, 21, 4, 17, 0, 128, 100, 42]
abbrev dktL_law_1 : List UInt8 := dkwL_law_1 ++ dktL_law_2
def dkwL_law_0 : List UInt8 := [187, 0, 11, 89, 183, 0, 25, 76, 16, 64, 188, 10, 77, 16, 64, 62, 43, 44, 29, 184, 0, 26]
abbrev dktL_law_0 : List UInt8 := dkwL_law_0 ++ dktL_law_1
theorem dksL_law_0 : cL_law.data.toList.drop 0 = dktL_law_0 := by decide +kernel
theorem dksL_law_1 : cL_law.data.toList.drop 22 = dktL_law_1 := dk_seg dksL_law_0 22 rfl rfl
theorem dksL_law_2 : cL_law.data.toList.drop 45 = dktL_law_2 := dk_seg dksL_law_1 23 rfl rfl
theorem dksL_law_3 : cL_law.data.toList.drop 69 = dktL_law_3 := dk_seg dksL_law_2 24 rfl rfl
theorem dksL_law_4 : cL_law.data.toList.drop 91 = dktL_law_4 := dk_seg dksL_law_3 22 rfl rfl
theorem dksL_law_5 : cL_law.data.toList.drop 114 = dktL_law_5 := dk_seg dksL_law_4 23 rfl rfl
theorem dksL_law_6 : cL_law.data.toList.drop 117 = dktL_law_6 := dk_seg dksL_law_5 3 rfl rfl
theorem dksL_law_7 : cL_law.data.toList.drop 152 = dktL_law_7 := dk_seg dksL_law_6 35 rfl rfl
theorem dksL_law_8 : cL_law.data.toList.drop 176 = dktL_law_8 := dk_seg dksL_law_7 24 rfl rfl
theorem dksL_law_9 : cL_law.data.toList.drop 200 = dktL_law_9 := dk_seg dksL_law_8 24 rfl rfl
theorem dksL_law_10 : cL_law.data.toList.drop 224 = dktL_law_10 := dk_seg dksL_law_9 24 rfl rfl
theorem dksL_law_11 : cL_law.data.toList.drop 248 = dktL_law_11 := dk_seg dksL_law_10 24 rfl rfl
theorem dksL_law_12 : cL_law.data.toList.drop 272 = dktL_law_12 := dk_seg dksL_law_11 24 rfl rfl
theorem dksL_law_13 : cL_law.data.toList.drop 295 = dktL_law_13 := dk_seg dksL_law_12 23 rfl rfl
theorem dksL_law_14 : cL_law.data.toList.drop 319 = dktL_law_14 := dk_seg dksL_law_13 24 rfl rfl
theorem dksL_law_15 : cL_law.data.toList.drop 343 = dktL_law_15 := dk_seg dksL_law_14 24 rfl rfl
theorem dksL_law_16 : cL_law.data.toList.drop 366 = dktL_law_16 := dk_seg dksL_law_15 23 rfl rfl
theorem dksL_law_17 : cL_law.data.toList.drop 390 = dktL_law_17 := dk_seg dksL_law_16 24 rfl rfl
theorem dL_law_0 : decode cL_law 0 = .ok (.new 11, 3) := dk_187 0 11 (dk_at dksL_law_0 0 rfl rfl)
theorem dL_law_3 : decode cL_law 3 = .ok (.dup, 1) := dk_89 (dk_at dksL_law_0 3 rfl rfl)
theorem dL_law_4 : decode cL_law 4 = .ok (.invokespecial 25, 3) := dk_183 0 25 (dk_at dksL_law_0 4 rfl rfl)
theorem dL_law_7 : decode cL_law 7 = .ok (.astore_n 1, 1) := dk_76 (dk_at dksL_law_0 7 rfl rfl)
theorem dL_law_8 : decode cL_law 8 = .ok (.bipush 64, 2) := dk_16 64 (dk_at dksL_law_0 8 rfl rfl)
theorem dL_law_10 : decode cL_law 10 = .ok (.newarray .int, 2) := dk_188_10 (dk_at dksL_law_0 10 rfl rfl)
theorem dL_law_12 : decode cL_law 12 = .ok (.astore_n 2, 1) := dk_77 (dk_at dksL_law_0 12 rfl rfl)
theorem dL_law_13 : decode cL_law 13 = .ok (.bipush 64, 2) := dk_16 64 (dk_at dksL_law_0 13 rfl rfl)
theorem dL_law_15 : decode cL_law 15 = .ok (.istore_n 3, 1) := dk_62 (dk_at dksL_law_0 15 rfl rfl)
theorem dL_law_16 : decode cL_law 16 = .ok (.aload_n 1, 1) := dk_43 (dk_at dksL_law_0 16 rfl rfl)
theorem dL_law_17 : decode cL_law 17 = .ok (.aload_n 2, 1) := dk_44 (dk_at dksL_law_0 17 rfl rfl)
theorem dL_law_18 : decode cL_law 18 = .ok (.iload_n 3, 1) := dk_29 (dk_at dksL_law_0 18 rfl rfl)
theorem dL_law_19 : decode cL_law 19 = .ok (.invokestatic 26, 3) := dk_184 0 26 (dk_at dksL_law_0 19 rfl rfl)
theorem dL_law_22 : decode cL_law 22 = .ok (.ifCond .ne 5, 3) := dk_154 0 5 (dk_at dksL_law_1 0 rfl rfl)
theorem dL_law_25 : decode cL_law 25 = .ok (.iconst 0, 1) := dk_3 (dk_at dksL_law_1 3 rfl rfl)
theorem dL_law_26 : decode cL_law 26 = .ok (.ireturn, 1) := dk_172 (dk_at dksL_law_1 4 rfl rfl)
theorem dL_law_27 : decode cL_law 27 = .ok (.iconst 0, 1) := dk_3 (dk_at dksL_law_1 5 rfl rfl)
theorem dL_law_28 : decode cL_law 28 = .ok (.istore 4, 2) := dk_54 4 (dk_at dksL_law_1 6 rfl rfl)
theorem dL_law_30 : decode cL_law 30 = .ok (.iload 4, 2) := dk_21 4 (dk_at dksL_law_1 8 rfl rfl)
theorem dL_law_32 : decode cL_law 32 = .ok (.bipush 64, 2) := dk_16 64 (dk_at dksL_law_1 10 rfl rfl)
theorem dL_law_34 : decode cL_law 34 = .ok (.if_icmp .ge 38, 3) := dk_162 0 38 (dk_at dksL_law_1 12 rfl rfl)
theorem dL_law_37 : decode cL_law 37 = .ok (.aload_n 1, 1) := dk_43 (dk_at dksL_law_1 15 rfl rfl)
theorem dL_law_38 : decode cL_law 38 = .ok (.iload 4, 2) := dk_21 4 (dk_at dksL_law_1 16 rfl rfl)
theorem dL_law_40 : decode cL_law 40 = .ok (.sipush 128, 3) := dk_17 0 128 (dk_at dksL_law_1 18 rfl rfl)
theorem dL_law_43 : decode cL_law 43 = .ok (.isub, 1) := dk_100 (dk_at dksL_law_1 21 rfl rfl)
theorem dL_law_44 : decode cL_law 44 = .ok (.aload_n 0, 1) := dk_42 (dk_at dksL_law_1 22 rfl rfl)
theorem dL_law_45 : decode cL_law 45 = .ok (.iload 4, 2) := dk_21 4 (dk_at dksL_law_2 0 rfl rfl)
theorem dL_law_47 : decode cL_law 47 = .ok (.invokestatic 32, 3) := dk_184 0 32 (dk_at dksL_law_2 2 rfl rfl)
theorem dL_law_50 : decode cL_law 50 = .ok (.invokevirtual 36, 3) := dk_182 0 36 (dk_at dksL_law_2 5 rfl rfl)
theorem dL_law_53 : decode cL_law 53 = .ok (.aload_n 2, 1) := dk_44 (dk_at dksL_law_2 8 rfl rfl)
theorem dL_law_54 : decode cL_law 54 = .ok (.iload 4, 2) := dk_21 4 (dk_at dksL_law_2 9 rfl rfl)
theorem dL_law_56 : decode cL_law 56 = .ok (.aload_n 0, 1) := dk_42 (dk_at dksL_law_2 11 rfl rfl)
theorem dL_law_57 : decode cL_law 57 = .ok (.iload 4, 2) := dk_21 4 (dk_at dksL_law_2 12 rfl rfl)
theorem dL_law_59 : decode cL_law 59 = .ok (.invokestatic 32, 3) := dk_184 0 32 (dk_at dksL_law_2 14 rfl rfl)
theorem dL_law_62 : decode cL_law 62 = .ok (.invokestatic 40, 3) := dk_184 0 40 (dk_at dksL_law_2 17 rfl rfl)
theorem dL_law_65 : decode cL_law 65 = .ok (.iastore, 1) := dk_79 (dk_at dksL_law_2 20 rfl rfl)
theorem dL_law_66 : decode cL_law 66 = .ok (.iinc 4 1, 3) := dk_132 4 1 (dk_at dksL_law_2 21 rfl rfl)
theorem dL_law_69 : decode cL_law 69 = .ok (.goto (-39), 3) := dk_167 255 217 (dk_at dksL_law_3 0 rfl rfl)
theorem dL_law_72 : decode cL_law 72 = .ok (.aload_n 1, 1) := dk_43 (dk_at dksL_law_3 3 rfl rfl)
theorem dL_law_73 : decode cL_law 73 = .ok (.aload_n 2, 1) := dk_44 (dk_at dksL_law_3 4 rfl rfl)
theorem dL_law_74 : decode cL_law 74 = .ok (.iload_n 3, 1) := dk_29 (dk_at dksL_law_3 5 rfl rfl)
theorem dL_law_75 : decode cL_law 75 = .ok (.invokestatic 26, 3) := dk_184 0 26 (dk_at dksL_law_3 6 rfl rfl)
theorem dL_law_78 : decode cL_law 78 = .ok (.ifCond .ne 5, 3) := dk_154 0 5 (dk_at dksL_law_3 9 rfl rfl)
theorem dL_law_81 : decode cL_law 81 = .ok (.iconst 0, 1) := dk_3 (dk_at dksL_law_3 12 rfl rfl)
theorem dL_law_82 : decode cL_law 82 = .ok (.ireturn, 1) := dk_172 (dk_at dksL_law_3 13 rfl rfl)
theorem dL_law_83 : decode cL_law 83 = .ok (.bipush 64, 2) := dk_16 64 (dk_at dksL_law_3 14 rfl rfl)
theorem dL_law_85 : decode cL_law 85 = .ok (.istore 4, 2) := dk_54 4 (dk_at dksL_law_3 16 rfl rfl)
theorem dL_law_87 : decode cL_law 87 = .ok (.iload 4, 2) := dk_21 4 (dk_at dksL_law_3 18 rfl rfl)
theorem dL_law_89 : decode cL_law 89 = .ok (.bipush 96, 2) := dk_16 96 (dk_at dksL_law_3 20 rfl rfl)
theorem dL_law_91 : decode cL_law 91 = .ok (.if_icmp .ge 236, 3) := dk_162 0 236 (dk_at dksL_law_4 0 rfl rfl)
theorem dL_law_94 : decode cL_law 94 = .ok (.aload_n 0, 1) := dk_42 (dk_at dksL_law_4 3 rfl rfl)
theorem dL_law_95 : decode cL_law 95 = .ok (.iload 4, 2) := dk_21 4 (dk_at dksL_law_4 4 rfl rfl)
theorem dL_law_97 : decode cL_law 97 = .ok (.invokestatic 32, 3) := dk_184 0 32 (dk_at dksL_law_4 6 rfl rfl)
theorem dL_law_100 : decode cL_law 100 = .ok (.istore 5, 2) := dk_54 5 (dk_at dksL_law_4 9 rfl rfl)
theorem dL_law_102 : decode cL_law 102 = .ok (.aload_n 0, 1) := dk_42 (dk_at dksL_law_4 11 rfl rfl)
theorem dL_law_103 : decode cL_law 103 = .ok (.iload 4, 2) := dk_21 4 (dk_at dksL_law_4 12 rfl rfl)
theorem dL_law_105 : decode cL_law 105 = .ok (.iconst 1, 1) := dk_4 (dk_at dksL_law_4 14 rfl rfl)
theorem dL_law_106 : decode cL_law 106 = .ok (.iadd, 1) := dk_96 (dk_at dksL_law_4 15 rfl rfl)
theorem dL_law_107 : decode cL_law 107 = .ok (.invokestatic 32, 3) := dk_184 0 32 (dk_at dksL_law_4 16 rfl rfl)
theorem dL_law_110 : decode cL_law 110 = .ok (.istore 6, 2) := dk_54 6 (dk_at dksL_law_4 19 rfl rfl)
theorem dL_law_112 : decode cL_law 112 = .ok (.iload 5, 2) := dk_21 5 (dk_at dksL_law_4 21 rfl rfl)
theorem dL_law_114 : decode cL_law 114 = .ok (.bipush 7, 2) := dk_16 7 (dk_at dksL_law_5 0 rfl rfl)
theorem dL_law_116 : decode cL_law 116 = .ok (.iand, 1) := dk_126 (dk_at dksL_law_5 2 rfl rfl)
theorem dL_law_117 : decode cL_law 117 = .ok (.tableswitch 184 3 7 #[35, 55, 82, 128, 155], 35) := by decide +kernel
theorem dL_law_152 : decode cL_law 152 = .ok (.aload_n 1, 1) := dk_43 (dk_at dksL_law_7 0 rfl rfl)
theorem dL_law_153 : decode cL_law 153 = .ok (.iload 6, 2) := dk_21 6 (dk_at dksL_law_7 1 rfl rfl)
theorem dL_law_155 : decode cL_law 155 = .ok (.invokevirtual 43, 3) := dk_182 0 43 (dk_at dksL_law_7 3 rfl rfl)
theorem dL_law_158 : decode cL_law 158 = .ok (.iconst 2, 1) := dk_5 (dk_at dksL_law_7 6 rfl rfl)
theorem dL_law_159 : decode cL_law 159 = .ok (.iload 6, 2) := dk_21 6 (dk_at dksL_law_7 7 rfl rfl)
theorem dL_law_161 : decode cL_law 161 = .ok (.ldc 46, 2) := dk_18 46 (dk_at dksL_law_7 9 rfl rfl)
theorem dL_law_163 : decode cL_law 163 = .ok (.iand, 1) := dk_126 (dk_at dksL_law_7 11 rfl rfl)
theorem dL_law_164 : decode cL_law 164 = .ok (.bipush 63, 2) := dk_16 63 (dk_at dksL_law_7 12 rfl rfl)
theorem dL_law_166 : decode cL_law 166 = .ok (.irem, 1) := dk_112 (dk_at dksL_law_7 14 rfl rfl)
theorem dL_law_167 : decode cL_law 167 = .ok (.iadd, 1) := dk_96 (dk_at dksL_law_7 15 rfl rfl)
theorem dL_law_168 : decode cL_law 168 = .ok (.istore_n 3, 1) := dk_62 (dk_at dksL_law_7 16 rfl rfl)
theorem dL_law_169 : decode cL_law 169 = .ok (.goto 141, 3) := dk_167 0 141 (dk_at dksL_law_7 17 rfl rfl)
theorem dL_law_172 : decode cL_law 172 = .ok (.aload_n 1, 1) := dk_43 (dk_at dksL_law_7 20 rfl rfl)
theorem dL_law_173 : decode cL_law 173 = .ok (.iload 5, 2) := dk_21 5 (dk_at dksL_law_7 21 rfl rfl)
theorem dL_law_175 : decode cL_law 175 = .ok (.iconst 3, 1) := dk_6 (dk_at dksL_law_7 23 rfl rfl)
theorem dL_law_176 : decode cL_law 176 = .ok (.ishr, 1) := dk_122 (dk_at dksL_law_8 0 rfl rfl)
theorem dL_law_177 : decode cL_law 177 = .ok (.iload 6, 2) := dk_21 6 (dk_at dksL_law_8 1 rfl rfl)
theorem dL_law_179 : decode cL_law 179 = .ok (.invokevirtual 36, 3) := dk_182 0 36 (dk_at dksL_law_8 3 rfl rfl)
theorem dL_law_182 : decode cL_law 182 = .ok (.aload_n 2, 1) := dk_44 (dk_at dksL_law_8 6 rfl rfl)
theorem dL_law_183 : decode cL_law 183 = .ok (.iload 5, 2) := dk_21 5 (dk_at dksL_law_8 7 rfl rfl)
theorem dL_law_185 : decode cL_law 185 = .ok (.iconst 3, 1) := dk_6 (dk_at dksL_law_8 9 rfl rfl)
theorem dL_law_186 : decode cL_law 186 = .ok (.ishr, 1) := dk_122 (dk_at dksL_law_8 10 rfl rfl)
theorem dL_law_187 : decode cL_law 187 = .ok (.bipush 63, 2) := dk_16 63 (dk_at dksL_law_8 11 rfl rfl)
theorem dL_law_189 : decode cL_law 189 = .ok (.iand, 1) := dk_126 (dk_at dksL_law_8 13 rfl rfl)
theorem dL_law_190 : decode cL_law 190 = .ok (.iload 6, 2) := dk_21 6 (dk_at dksL_law_8 14 rfl rfl)
theorem dL_law_192 : decode cL_law 192 = .ok (.invokestatic 40, 3) := dk_184 0 40 (dk_at dksL_law_8 16 rfl rfl)
theorem dL_law_195 : decode cL_law 195 = .ok (.iastore, 1) := dk_79 (dk_at dksL_law_8 19 rfl rfl)
theorem dL_law_196 : decode cL_law 196 = .ok (.goto 114, 3) := dk_167 0 114 (dk_at dksL_law_8 20 rfl rfl)
theorem dL_law_199 : decode cL_law 199 = .ok (.aload_n 1, 1) := dk_43 (dk_at dksL_law_8 23 rfl rfl)
theorem dL_law_200 : decode cL_law 200 = .ok (.iload 5, 2) := dk_21 5 (dk_at dksL_law_9 0 rfl rfl)
theorem dL_law_202 : decode cL_law 202 = .ok (.iconst 3, 1) := dk_6 (dk_at dksL_law_9 2 rfl rfl)
theorem dL_law_203 : decode cL_law 203 = .ok (.ishr, 1) := dk_122 (dk_at dksL_law_9 3 rfl rfl)
theorem dL_law_204 : decode cL_law 204 = .ok (.iload 6, 2) := dk_21 6 (dk_at dksL_law_9 4 rfl rfl)
theorem dL_law_206 : decode cL_law 206 = .ok (.invokevirtual 47, 3) := dk_182 0 47 (dk_at dksL_law_9 6 rfl rfl)
theorem dL_law_209 : decode cL_law 209 = .ok (.iconst 0, 1) := dk_3 (dk_at dksL_law_9 9 rfl rfl)
theorem dL_law_210 : decode cL_law 210 = .ok (.istore 7, 2) := dk_54 7 (dk_at dksL_law_9 10 rfl rfl)
theorem dL_law_212 : decode cL_law 212 = .ok (.iload 7, 2) := dk_21 7 (dk_at dksL_law_9 12 rfl rfl)
theorem dL_law_214 : decode cL_law 214 = .ok (.bipush 64, 2) := dk_16 64 (dk_at dksL_law_9 14 rfl rfl)
theorem dL_law_216 : decode cL_law 216 = .ok (.if_icmp .ge 26, 3) := dk_162 0 26 (dk_at dksL_law_9 16 rfl rfl)
theorem dL_law_219 : decode cL_law 219 = .ok (.aload_n 2, 1) := dk_44 (dk_at dksL_law_9 19 rfl rfl)
theorem dL_law_220 : decode cL_law 220 = .ok (.iload 7, 2) := dk_21 7 (dk_at dksL_law_9 20 rfl rfl)
theorem dL_law_222 : decode cL_law 222 = .ok (.iload 5, 2) := dk_21 5 (dk_at dksL_law_9 22 rfl rfl)
theorem dL_law_224 : decode cL_law 224 = .ok (.iconst 3, 1) := dk_6 (dk_at dksL_law_10 0 rfl rfl)
theorem dL_law_225 : decode cL_law 225 = .ok (.ishr, 1) := dk_122 (dk_at dksL_law_10 1 rfl rfl)
theorem dL_law_226 : decode cL_law 226 = .ok (.iload 6, 2) := dk_21 6 (dk_at dksL_law_10 2 rfl rfl)
theorem dL_law_228 : decode cL_law 228 = .ok (.iload 7, 2) := dk_21 7 (dk_at dksL_law_10 4 rfl rfl)
theorem dL_law_230 : decode cL_law 230 = .ok (.imul, 1) := dk_104 (dk_at dksL_law_10 6 rfl rfl)
theorem dL_law_231 : decode cL_law 231 = .ok (.iadd, 1) := dk_96 (dk_at dksL_law_10 7 rfl rfl)
theorem dL_law_232 : decode cL_law 232 = .ok (.invokestatic 40, 3) := dk_184 0 40 (dk_at dksL_law_10 8 rfl rfl)
theorem dL_law_235 : decode cL_law 235 = .ok (.iastore, 1) := dk_79 (dk_at dksL_law_10 11 rfl rfl)
theorem dL_law_236 : decode cL_law 236 = .ok (.iinc 7 1, 3) := dk_132 7 1 (dk_at dksL_law_10 12 rfl rfl)
theorem dL_law_239 : decode cL_law 239 = .ok (.goto (-27), 3) := dk_167 255 229 (dk_at dksL_law_10 15 rfl rfl)
theorem dL_law_242 : decode cL_law 242 = .ok (.goto 68, 3) := dk_167 0 68 (dk_at dksL_law_10 18 rfl rfl)
theorem dL_law_245 : decode cL_law 245 = .ok (.aload_n 1, 1) := dk_43 (dk_at dksL_law_10 21 rfl rfl)
theorem dL_law_246 : decode cL_law 246 = .ok (.iload 6, 2) := dk_21 6 (dk_at dksL_law_10 22 rfl rfl)
theorem dL_law_248 : decode cL_law 248 = .ok (.iload 5, 2) := dk_21 5 (dk_at dksL_law_11 0 rfl rfl)
theorem dL_law_250 : decode cL_law 250 = .ok (.iconst 3, 1) := dk_6 (dk_at dksL_law_11 2 rfl rfl)
theorem dL_law_251 : decode cL_law 251 = .ok (.ishr, 1) := dk_122 (dk_at dksL_law_11 3 rfl rfl)
theorem dL_law_252 : decode cL_law 252 = .ok (.invokevirtual 36, 3) := dk_182 0 36 (dk_at dksL_law_11 4 rfl rfl)
theorem dL_law_255 : decode cL_law 255 = .ok (.aload_n 2, 1) := dk_44 (dk_at dksL_law_11 7 rfl rfl)
theorem dL_law_256 : decode cL_law 256 = .ok (.iload 6, 2) := dk_21 6 (dk_at dksL_law_11 8 rfl rfl)
theorem dL_law_258 : decode cL_law 258 = .ok (.bipush 63, 2) := dk_16 63 (dk_at dksL_law_11 10 rfl rfl)
theorem dL_law_260 : decode cL_law 260 = .ok (.iand, 1) := dk_126 (dk_at dksL_law_11 12 rfl rfl)
theorem dL_law_261 : decode cL_law 261 = .ok (.iload 5, 2) := dk_21 5 (dk_at dksL_law_11 13 rfl rfl)
theorem dL_law_263 : decode cL_law 263 = .ok (.iconst 3, 1) := dk_6 (dk_at dksL_law_11 15 rfl rfl)
theorem dL_law_264 : decode cL_law 264 = .ok (.ishr, 1) := dk_122 (dk_at dksL_law_11 16 rfl rfl)
theorem dL_law_265 : decode cL_law 265 = .ok (.invokestatic 40, 3) := dk_184 0 40 (dk_at dksL_law_11 17 rfl rfl)
theorem dL_law_268 : decode cL_law 268 = .ok (.iastore, 1) := dk_79 (dk_at dksL_law_11 20 rfl rfl)
theorem dL_law_269 : decode cL_law 269 = .ok (.goto 41, 3) := dk_167 0 41 (dk_at dksL_law_11 21 rfl rfl)
theorem dL_law_272 : decode cL_law 272 = .ok (.aload_n 1, 1) := dk_43 (dk_at dksL_law_12 0 rfl rfl)
theorem dL_law_273 : decode cL_law 273 = .ok (.iload 6, 2) := dk_21 6 (dk_at dksL_law_12 1 rfl rfl)
theorem dL_law_275 : decode cL_law 275 = .ok (.invokevirtual 43, 3) := dk_182 0 43 (dk_at dksL_law_12 3 rfl rfl)
theorem dL_law_278 : decode cL_law 278 = .ok (.iconst 2, 1) := dk_5 (dk_at dksL_law_12 6 rfl rfl)
theorem dL_law_279 : decode cL_law 279 = .ok (.iload 6, 2) := dk_21 6 (dk_at dksL_law_12 7 rfl rfl)
theorem dL_law_281 : decode cL_law 281 = .ok (.ldc 46, 2) := dk_18 46 (dk_at dksL_law_12 9 rfl rfl)
theorem dL_law_283 : decode cL_law 283 = .ok (.iand, 1) := dk_126 (dk_at dksL_law_12 11 rfl rfl)
theorem dL_law_284 : decode cL_law 284 = .ok (.bipush 63, 2) := dk_16 63 (dk_at dksL_law_12 12 rfl rfl)
theorem dL_law_286 : decode cL_law 286 = .ok (.irem, 1) := dk_112 (dk_at dksL_law_12 14 rfl rfl)
theorem dL_law_287 : decode cL_law 287 = .ok (.iadd, 1) := dk_96 (dk_at dksL_law_12 15 rfl rfl)
theorem dL_law_288 : decode cL_law 288 = .ok (.istore_n 3, 1) := dk_62 (dk_at dksL_law_12 16 rfl rfl)
theorem dL_law_289 : decode cL_law 289 = .ok (.aload_n 1, 1) := dk_43 (dk_at dksL_law_12 17 rfl rfl)
theorem dL_law_290 : decode cL_law 290 = .ok (.invokevirtual 50, 3) := dk_182 0 50 (dk_at dksL_law_12 18 rfl rfl)
theorem dL_law_293 : decode cL_law 293 = .ok (.aload_n 2, 1) := dk_44 (dk_at dksL_law_12 21 rfl rfl)
theorem dL_law_294 : decode cL_law 294 = .ok (.iload_n 3, 1) := dk_29 (dk_at dksL_law_12 22 rfl rfl)
theorem dL_law_295 : decode cL_law 295 = .ok (.invokestatic 53, 3) := dk_184 0 53 (dk_at dksL_law_13 0 rfl rfl)
theorem dL_law_298 : decode cL_law 298 = .ok (.goto 12, 3) := dk_167 0 12 (dk_at dksL_law_13 3 rfl rfl)
theorem dL_law_301 : decode cL_law 301 = .ok (.aload_n 1, 1) := dk_43 (dk_at dksL_law_13 6 rfl rfl)
theorem dL_law_302 : decode cL_law 302 = .ok (.invokevirtual 50, 3) := dk_182 0 50 (dk_at dksL_law_13 7 rfl rfl)
theorem dL_law_305 : decode cL_law 305 = .ok (.aload_n 2, 1) := dk_44 (dk_at dksL_law_13 10 rfl rfl)
theorem dL_law_306 : decode cL_law 306 = .ok (.iload_n 3, 1) := dk_29 (dk_at dksL_law_13 11 rfl rfl)
theorem dL_law_307 : decode cL_law 307 = .ok (.invokestatic 53, 3) := dk_184 0 53 (dk_at dksL_law_13 12 rfl rfl)
theorem dL_law_310 : decode cL_law 310 = .ok (.aload_n 1, 1) := dk_43 (dk_at dksL_law_13 15 rfl rfl)
theorem dL_law_311 : decode cL_law 311 = .ok (.aload_n 2, 1) := dk_44 (dk_at dksL_law_13 16 rfl rfl)
theorem dL_law_312 : decode cL_law 312 = .ok (.iload_n 3, 1) := dk_29 (dk_at dksL_law_13 17 rfl rfl)
theorem dL_law_313 : decode cL_law 313 = .ok (.invokestatic 26, 3) := dk_184 0 26 (dk_at dksL_law_13 18 rfl rfl)
theorem dL_law_316 : decode cL_law 316 = .ok (.ifCond .ne 5, 3) := dk_154 0 5 (dk_at dksL_law_13 21 rfl rfl)
theorem dL_law_319 : decode cL_law 319 = .ok (.iconst 0, 1) := dk_3 (dk_at dksL_law_14 0 rfl rfl)
theorem dL_law_320 : decode cL_law 320 = .ok (.ireturn, 1) := dk_172 (dk_at dksL_law_14 1 rfl rfl)
theorem dL_law_321 : decode cL_law 321 = .ok (.iinc 4 2, 3) := dk_132 4 2 (dk_at dksL_law_14 2 rfl rfl)
theorem dL_law_324 : decode cL_law 324 = .ok (.goto (-237), 3) := dk_167 255 19 (dk_at dksL_law_14 5 rfl rfl)
theorem dL_law_327 : decode cL_law 327 = .ok (.aload_n 1, 1) := dk_43 (dk_at dksL_law_14 8 rfl rfl)
theorem dL_law_328 : decode cL_law 328 = .ok (.bipush 62, 2) := dk_16 62 (dk_at dksL_law_14 9 rfl rfl)
theorem dL_law_330 : decode cL_law 330 = .ok (.invokevirtual 43, 3) := dk_182 0 43 (dk_at dksL_law_14 11 rfl rfl)
theorem dL_law_333 : decode cL_law 333 = .ok (.aload_n 1, 1) := dk_43 (dk_at dksL_law_14 14 rfl rfl)
theorem dL_law_334 : decode cL_law 334 = .ok (.invokevirtual 50, 3) := dk_182 0 50 (dk_at dksL_law_14 15 rfl rfl)
theorem dL_law_337 : decode cL_law 337 = .ok (.aload_n 2, 1) := dk_44 (dk_at dksL_law_14 18 rfl rfl)
theorem dL_law_338 : decode cL_law 338 = .ok (.bipush 64, 2) := dk_16 64 (dk_at dksL_law_14 19 rfl rfl)
theorem dL_law_340 : decode cL_law 340 = .ok (.invokestatic 53, 3) := dk_184 0 53 (dk_at dksL_law_14 21 rfl rfl)
theorem dL_law_343 : decode cL_law 343 = .ok (.aload_n 1, 1) := dk_43 (dk_at dksL_law_15 0 rfl rfl)
theorem dL_law_344 : decode cL_law 344 = .ok (.aload_n 2, 1) := dk_44 (dk_at dksL_law_15 1 rfl rfl)
theorem dL_law_345 : decode cL_law 345 = .ok (.bipush 64, 2) := dk_16 64 (dk_at dksL_law_15 2 rfl rfl)
theorem dL_law_347 : decode cL_law 347 = .ok (.invokestatic 26, 3) := dk_184 0 26 (dk_at dksL_law_15 4 rfl rfl)
theorem dL_law_350 : decode cL_law 350 = .ok (.ifCond .ne 5, 3) := dk_154 0 5 (dk_at dksL_law_15 7 rfl rfl)
theorem dL_law_353 : decode cL_law 353 = .ok (.iconst 0, 1) := dk_3 (dk_at dksL_law_15 10 rfl rfl)
theorem dL_law_354 : decode cL_law 354 = .ok (.ireturn, 1) := dk_172 (dk_at dksL_law_15 11 rfl rfl)
theorem dL_law_355 : decode cL_law 355 = .ok (.iconst 2, 1) := dk_5 (dk_at dksL_law_15 12 rfl rfl)
theorem dL_law_356 : decode cL_law 356 = .ok (.istore 4, 2) := dk_54 4 (dk_at dksL_law_15 13 rfl rfl)
theorem dL_law_358 : decode cL_law 358 = .ok (.iload 4, 2) := dk_21 4 (dk_at dksL_law_15 15 rfl rfl)
theorem dL_law_360 : decode cL_law 360 = .ok (.bipush 64, 2) := dk_16 64 (dk_at dksL_law_15 17 rfl rfl)
theorem dL_law_362 : decode cL_law 362 = .ok (.if_icmp .gt 21, 3) := dk_163 0 21 (dk_at dksL_law_15 19 rfl rfl)
theorem dL_law_365 : decode cL_law 365 = .ok (.aload_n 1, 1) := dk_43 (dk_at dksL_law_15 22 rfl rfl)
theorem dL_law_366 : decode cL_law 366 = .ok (.iload 4, 2) := dk_21 4 (dk_at dksL_law_16 0 rfl rfl)
theorem dL_law_368 : decode cL_law 368 = .ok (.iconst 2, 1) := dk_5 (dk_at dksL_law_16 2 rfl rfl)
theorem dL_law_369 : decode cL_law 369 = .ok (.isub, 1) := dk_100 (dk_at dksL_law_16 3 rfl rfl)
theorem dL_law_370 : decode cL_law 370 = .ok (.invokevirtual 43, 3) := dk_182 0 43 (dk_at dksL_law_16 4 rfl rfl)
theorem dL_law_373 : decode cL_law 373 = .ok (.aload_n 1, 1) := dk_43 (dk_at dksL_law_16 7 rfl rfl)
theorem dL_law_374 : decode cL_law 374 = .ok (.invokevirtual 50, 3) := dk_182 0 50 (dk_at dksL_law_16 8 rfl rfl)
theorem dL_law_377 : decode cL_law 377 = .ok (.iinc 4 1, 3) := dk_132 4 1 (dk_at dksL_law_16 11 rfl rfl)
theorem dL_law_380 : decode cL_law 380 = .ok (.goto (-22), 3) := dk_167 255 234 (dk_at dksL_law_16 14 rfl rfl)
theorem dL_law_383 : decode cL_law 383 = .ok (.aload_n 1, 1) := dk_43 (dk_at dksL_law_16 17 rfl rfl)
theorem dL_law_384 : decode cL_law 384 = .ok (.aload_n 2, 1) := dk_44 (dk_at dksL_law_16 18 rfl rfl)
theorem dL_law_385 : decode cL_law 385 = .ok (.bipush 64, 2) := dk_16 64 (dk_at dksL_law_16 19 rfl rfl)
theorem dL_law_387 : decode cL_law 387 = .ok (.invokestatic 26, 3) := dk_184 0 26 (dk_at dksL_law_16 21 rfl rfl)
theorem dL_law_390 : decode cL_law 390 = .ok (.ireturn, 1) := dk_172 (dk_at dksL_law_17 0 rfl rfl)
end
section
/-! rows of COUNTS.to-paste and BITS.to-paste, as many as are used -/
def fb_ct (p : Nat → Bool) : Nat → Nat
  | 0 => 0
  | n + 1 => fb_ct p n + (if p n then 1 else 0)
theorem fb_ct_succ (p : Nat → Bool) (n : Nat) : fb_ct p (n + 1) = fb_ct p n + (if p n then 1 else 0) := rfl
theorem fb_ct_le (p : Nat → Bool) : ∀ n, fb_ct p n ≤ n
  | 0 => Nat.le_refl _
  | n + 1 => by
    have h := fb_ct_le p n
    rw [fb_ct_succ]
    split <;> omega
theorem fb_ct_step (p : Nat → Bool) (m : Nat) : ∀ n, fb_ct p m ≤ fb_ct p (m + n)
  | 0 => Nat.le_refl _
  | n + 1 => by
    have h := fb_ct_step p m n
    show fb_ct p m ≤ fb_ct p (m + n + 1)
    rw [fb_ct_succ]
    omega
theorem fb_ct_mono (p : Nat → Bool) {m n : Nat} (h : m ≤ n) : fb_ct p m ≤ fb_ct p n := by
  have := fb_ct_step p m (n - m)
  rwa [Nat.add_sub_cancel' h] at this
theorem fb_ct_cong {p q : Nat → Bool} : ∀ {n : Nat}, (∀ k, k < n → p k = q k) → fb_ct p n = fb_ct q n
  | 0, _ => rfl
  | n + 1, h => by
    rw [fb_ct_succ, fb_ct_succ, fb_ct_cong (fun k hk => h k (by omega)), h n (by omega)]
theorem fb_ct_out (p : Nat → Bool) (b : Bool) {i n : Nat} (h : n ≤ i) : fb_ct (fun k => if k = i then b else p k) n = fb_ct p n :=
  fb_ct_cong fun k hk => if_neg (by omega)
theorem fb_ct_upd (p : Nat → Bool) (b : Bool) {i : Nat} : ∀ {n : Nat}, i < n → fb_ct (fun k => if k = i then b else p k) n + (if p i then 1 else 0) = fb_ct p n + (if b then 1 else 0)
  | 0, h => absurd h (Nat.not_lt_zero i)
  | n + 1, h => by
    rw [fb_ct_succ, fb_ct_succ]
    rcases Nat.lt_or_ge i n with q | q
    · have := fb_ct_upd p b q
      have e : (if n = i then b else p n) = p n := if_neg (by omega)
      rw [e]
      omega
    · have e : i = n := by omega
      subst e
      rw [fb_ct_out p b (Nat.le_refl _)]
      simp only [if_true]
      omega
theorem fb_ct_not (p : Nat → Bool) : ∀ n, fb_ct p n + fb_ct (fun k => !p k) n = n
  | 0 => rfl
  | n + 1 => by
    have h := fb_ct_not p n
    rw [fb_ct_succ, fb_ct_succ]
    cases p n <;> simp <;> omega
theorem fb_ct_split (p : Nat → Bool) (m : Nat) : ∀ n, fb_ct p (m + n) = fb_ct p m + fb_ct (fun k => p (m + k)) n
  | 0 => rfl
  | n + 1 => by
    have h := fb_ct_split p m n
    show fb_ct p (m + n + 1) = _
    rw [fb_ct_succ, fb_ct_succ, h, Nat.add_assoc]
theorem fb_ct_zero {p : Nat → Bool} : ∀ {n : Nat}, fb_ct p n = 0 ↔ ∀ k, k < n → p k = false
  | 0 => ⟨fun _ k hk => absurd hk (Nat.not_lt_zero k), fun _ => rfl⟩
  | n + 1 => by
    have h := fb_ct_zero (p := p) (n := n)
    rw [fb_ct_succ]
    constructor
    · intro e k hk
      have e1 : fb_ct p n = 0 := by omega
      rcases Nat.lt_or_ge k n with q | q
      · exact h.mp e1 k q
      · have ek : k = n := by omega
        subst ek
        cases hp : p k
        · rfl
        · simp [hp] at e
    · intro a
      rw [h.mpr (fun k hk => a k (by omega)), a n (by omega)]
      rfl
theorem fb_ct_all {p : Nat → Bool} {n : Nat} : fb_ct p n = n ↔ ∀ k, k < n → p k = true := by
  have h := fb_ct_not p n
  constructor
  · intro e k hk
    have z : fb_ct (fun k => !p k) n = 0 := by omega
    have := fb_ct_zero.mp z k hk
    cases hp : p k
    · simp [hp] at this
    · rfl
  · intro a
    have z : fb_ct (fun k => !p k) n = 0 := fb_ct_zero.mpr (fun k hk => by simp [a k hk])
    omega
theorem fb_bit_nat (n j : Nat) : n &&& 2 ^ j = 0 ↔ n.testBit j = false := by
  constructor
  · intro h
    have h1 : (n &&& 2 ^ j).testBit j = false := by rw [h]; simp
    rw [Nat.testBit_and] at h1
    simpa using h1
  · intro h
    apply Nat.eq_of_testBit_eq
    intro i
    rw [Nat.testBit_and]
    by_cases hi : j = i
    · subst hi; simp [h]
    · first | (simp [Nat.testBit_two_pow, hi]; done) | (simp [Nat.testBit_two_pow_of_ne hi]; done)
theorem fb_bmod {z : Int} (h1 : -2147483648 ≤ z) (h2 : z < 2147483648) : z.bmod (2 ^ 32) = z := by
  rw [Int.bmod_eq_of_le (by omega) (by omega)]
theorem fb_subI {x y : Int32} (h1 : -2147483648 ≤ x.toInt - y.toInt) (h2 : x.toInt - y.toInt < 2147483648) : (x - y).toInt = x.toInt - y.toInt := by
  rw [Int32.toInt_sub, fb_bmod h1 h2]
def bt (x : Int32) (i : Nat) : Bool := x.toBitVec.getLsbD i
theorem b_ext {x y : Int32} (h : ∀ i, i < 32 → bt x i = bt y i) : x = y := Int32.toBitVec_inj.mp (BitVec.eq_of_getLsbD_eq (fun i hi => h i hi))
theorem b_and (x y : Int32) (i : Nat) : bt (x &&& y) i = (bt x i && bt y i) := by unfold bt; rw [Int32.toBitVec_and, BitVec.getLsbD_and]
theorem b_xor (x y : Int32) (i : Nat) : bt (x ^^^ y) i = (bt x i ^^ bt y i) := by unfold bt; rw [Int32.toBitVec_xor, BitVec.getLsbD_xor]
theorem b_m1 : ∀ i, i < 32 → bt (-1) i = true := by decide +kernel
theorem b_0 (i : Nat) : bt 0 i = false := BitVec.getLsbD_zero
theorem nx_and (a b : Nat) : nI a &&& nI b = nI (a &&& b) := by
  apply Int32.toBitVec_inj.1
  show BitVec.ofNat 32 a &&& BitVec.ofNat 32 b = BitVec.ofNat 32 (a &&& b)
  apply BitVec.eq_of_getLsbD_eq
  intro i hi
  simp [hi]
/-! ===== what the network computes: one comparator, one pass of them ===== -/
def ns_mn (a b : Int32) : Int32 := if b.toInt < a.toInt then b else a
def ns_mx (a b : Int32) : Int32 := if b.toInt < a.toInt then a else b
def ns_cx (f : Nat → Int32) (i j : Nat) : Nat → Int32 := upd (upd f i (ns_mn (f i) (f j))) j (ns_mx (f i) (f j))
theorem ns_mn_lt (a b : Int32) (t : Int) : (ns_mn a b).toInt < t ↔ (a.toInt < t ∨ b.toInt < t) := by
  unfold ns_mn
  split <;> omega
theorem ns_mx_lt (a b : Int32) (t : Int) : (ns_mx a b).toInt < t ↔ (a.toInt < t ∧ b.toInt < t) := by
  unfold ns_mx
  split <;> omega
/-- the place i stands in an even block of a places -/
def ns_E (a i : Nat) : Bool := decide (i / a % 2 = 0)
theorem ns_E_iff {a i : Nat} : ns_E a i = true ↔ i / a % 2 = 0 := by
  unfold ns_E
  exact decide_eq_true_iff
theorem ns_E_add {a i : Nat} (ha : 0 < a) : ns_E a (i + a) = !ns_E a i := by
  have h : (i + a) / a = i / a + 1 := Nat.add_div_right i ha
  unfold ns_E
  rw [h]
  by_cases q : i / a % 2 = 0
  · have q2 : ¬ (i / a + 1) % 2 = 0 := by omega
    simp [q, q2]
  · have q2 : (i / a + 1) % 2 = 0 := by omega
    simp [q, q2]
theorem ns_E_mul {a i : Nat} (ha : 0 < a) (m : Nat) : ns_E a (i + a * (2 * m)) = ns_E a i := by
  have h : (i + a * (2 * m)) / a = i / a + 2 * m := Nat.add_mul_div_left i (2 * m) ha
  have h2 : (i / a + 2 * m) % 2 = i / a % 2 := by omega
  unfold ns_E
  rw [h, h2]
theorem ns_E_two {a i : Nat} (ha : 0 < a) : ns_E a (i + 2 * a) = ns_E a i := by
  have h := ns_E_mul (a := a) (i := i) ha 1
  rw [show a * (2 * 1) = 2 * a by omega] at h
  exact h
theorem ns_E_not {a i j : Nat} (ha : 0 < a) (hi : ns_E a i = true) (hj : ns_E a j = true) : i ≠ j + a := by
  intro z
  have h1 := ns_E_add (a := a) (i := j) ha
  rw [← z, hi, hj] at h1
  exact absurd h1 (by decide)
theorem ns_E_odd {a i : Nat} (ha : 0 < a) (h : ¬ ns_E a i = true) : ∃ j, i = j + a ∧ ns_E a j = true := by
  have h0 : a ≤ i := by
    rcases Nat.lt_or_ge i a with q | q
    · exact absurd (ns_E_iff.mpr (by rw [Nat.div_eq_of_lt q])) h
    · exact q
  refine ⟨i - a, by omega, ?_⟩
  have h1 := ns_E_add (a := a) (i := i - a) ha
  rw [Nat.sub_add_cancel h0] at h1
  cases hq : ns_E a (i - a)
  · rw [hq] at h1
    exact absurd h1 h
  · rfl
/-- one pass: the comparators (i + al, i + be) for all i < m in even blocks -/
def ns_pp (a al be : Nat) (f : Nat → Int32) : Nat → (Nat → Int32)
  | 0 => f
  | m + 1 => if ns_E a m = true then ns_cx (ns_pp a al be f m) (m + al) (m + be) else ns_pp a al be f m
theorem ns_pp_0 (a al be : Nat) (f : Nat → Int32) : ns_pp a al be f 0 = f := rfl
theorem ns_pp_t {a al be m : Nat} {f : Nat → Int32} (h : ns_E a m = true) : ns_pp a al be f (m + 1) = ns_cx (ns_pp a al be f m) (m + al) (m + be) := by
  show (if ns_E a m = true then ns_cx (ns_pp a al be f m) (m + al) (m + be) else ns_pp a al be f m) = _
  rw [if_pos h]
theorem ns_pp_f {a al be m : Nat} {f : Nat → Int32} (h : ¬ ns_E a m = true) : ns_pp a al be f (m + 1) = ns_pp a al be f m := by
  show (if ns_E a m = true then ns_cx (ns_pp a al be f m) (m + al) (m + be) else ns_pp a al be f m) = _
  rw [if_neg h]
theorem ns_pp_val (a al be : Nat) (f : Nat → Int32) (hd : ∀ i j, ns_E a i = true → ns_E a j = true → i + al ≠ j + be) : ∀ m : Nat,
    (∀ i, ns_E a i = true → i < m → ns_pp a al be f m (i + al) = ns_mn (f (i + al)) (f (i + be)) ∧ ns_pp a al be f m (i + be) = ns_mx (f (i + al)) (f (i + be))) ∧
    (∀ k, (∀ i, ns_E a i = true → i < m → k ≠ i + al ∧ k ≠ i + be) → ns_pp a al be f m k = f k) := by
  intro m
  induction m with
  | zero => exact ⟨fun i _ h => absurd h (Nat.not_lt_zero i), fun k _ => rfl⟩
  | succ m ih =>
    obtain ⟨h1, h2⟩ := ih
    by_cases q : ns_E a m = true
    · have e1 : ns_pp a al be f m (m + al) = f (m + al) := h2 _ fun i hi hl => ⟨by omega, hd m i q hi⟩
      have e2 : ns_pp a al be f m (m + be) = f (m + be) := h2 _ fun i hi hl => ⟨fun z => hd i m hi q z.symm, by omega⟩
      have hne : m + al ≠ m + be := hd m m q q
      rw [ns_pp_t q]
      unfold ns_cx
      rw [e1, e2]
      constructor
      · intro i hi hl
        by_cases z : i = m
        · subst z
          exact ⟨by rw [pk_un hne, pk_us], by rw [pk_us]⟩
        · have hl : i < m := by omega
          have n1 : i + al ≠ m + al := by omega
          have n2 : i + al ≠ m + be := hd i m hi q
          have n3 : i + be ≠ m + al := fun z => hd m i q hi z.symm
          have n4 : i + be ≠ m + be := by omega
          rw [pk_un n2, pk_un n1, pk_un n4, pk_un n3]
          exact h1 i hi hl
      · intro k hk
        have hkm := hk m q (Nat.lt_succ_self m)
        rw [pk_un hkm.2, pk_un hkm.1]
        exact h2 k fun i hi hl => hk i hi (by omega)
    · rw [ns_pp_f q]
      constructor
      · intro i hi hl
        have hne : i ≠ m := fun z => q (z ▸ hi)
        exact h1 i hi (by omega)
      · intro k hk
        exact h2 k fun i hi hl => hk i hi (by omega)
/-! ===== small places: those below n that hold less than t ===== -/
def ns_S (n : Nat) (f : Nat → Int32) (t : Int) (k : Nat) : Prop := k < n ∧ (f k).toInt < t
def ns_I (n : Nat) (f : Nat → Int32) (t : Int) (d : Nat) : Prop := ∀ k, ns_S n f t (k + d) → ns_S n f t k
theorem ns_I_mul {n : Nat} {f : Nat → Int32} {t : Int} {d : Nat} (h : ns_I n f t d) : ∀ (m k : Nat), ns_S n f t (k + d * m) → ns_S n f t k := by
  intro m
  induction m with
  | zero => intro k hk; exact hk
  | succ m ih =>
    intro k hk
    rw [Nat.mul_succ, ← Nat.add_assoc] at hk
    exact ih k (h _ hk)
theorem ns_pp_S {a al be n : Nat} (f : Nat → Int32) (t : Int) (hd : ∀ i j, ns_E a i = true → ns_E a j = true → i + al ≠ j + be) (hlt : al < be) :
    (∀ i, ns_E a i = true → (ns_S n (ns_pp a al be f (n - be)) t (i + al) ↔ (ns_S n f t (i + al) ∨ ns_S n f t (i + be))) ∧ (ns_S n (ns_pp a al be f (n - be)) t (i + be) ↔ (ns_S n f t (i + al) ∧ ns_S n f t (i + be)))) ∧
    (∀ k, (∀ i, ns_E a i = true → k ≠ i + al ∧ k ≠ i + be) → (ns_S n (ns_pp a al be f (n - be)) t k ↔ ns_S n f t k)) := by
  obtain ⟨h1, h2⟩ := ns_pp_val a al be f hd (n - be)
  unfold ns_S
  constructor
  · intro i hi
    by_cases q : i < n - be
    · obtain ⟨e1, e2⟩ := h1 i hi q
      have b1 : i + al < n := by omega
      have b2 : i + be < n := by omega
      rw [e1, e2, ns_mn_lt, ns_mx_lt]
      constructor
      · exact ⟨fun z => z.2.elim (fun y => Or.inl ⟨b1, y⟩) (fun y => Or.inr ⟨b2, y⟩), fun z => z.elim (fun y => ⟨b1, Or.inl y.2⟩) (fun y => ⟨b1, Or.inr y.2⟩)⟩
      · exact ⟨fun z => ⟨⟨b1, z.2.1⟩, ⟨b2, z.2.2⟩⟩, fun z => ⟨b2, z.1.2, z.2.2⟩⟩
    · have e1 : ns_pp a al be f (n - be) (i + al) = f (i + al) := h2 _ fun j hj hl => ⟨by omega, hd i j hi hj⟩
      have b2 : ¬ i + be < n := by omega
      rw [e1]
      exact ⟨⟨fun z => Or.inl z, fun z => z.elim id (fun y => absurd y.1 b2)⟩, ⟨fun z => absurd z.1 b2, fun z => absurd z.2.1 b2⟩⟩
  · intro k hk
    rw [h2 k fun i hi _ => hk i hi]
/-- the first pass of a stage: neighbours by a -/
theorem ns_first {a n : Nat} (ha : 0 < a) (f : Nat → Int32) (t : Int) (h : ns_I n f t (2 * a)) :
    ns_I n (ns_pp a 0 a f (n - a)) t (2 * a) ∧ ∀ i, ns_E a i = true → ns_S n (ns_pp a 0 a f (n - a)) t (i + a) → ns_S n (ns_pp a 0 a f (n - a)) t i := by
  have hd : ∀ i j, ns_E a i = true → ns_E a j = true → i + 0 ≠ j + a := fun i j hi hj => ns_E_not ha hi hj
  obtain ⟨hp, -⟩ := ns_pp_S (n := n) f t hd ha
  generalize ns_pp a 0 a f (n - a) = g at hp ⊢
  simp only [Nat.add_zero] at hp
  constructor
  · intro k hk
    by_cases q : ns_E a k = true
    · have q2 : ns_E a (k + 2 * a) = true := by rw [ns_E_two ha]; exact q
      rcases (hp _ q2).1.mp hk with z | z
      · exact (hp k q).1.mpr (Or.inl (h k z))
      · exact (hp k q).1.mpr (Or.inr (h (k + a) (by rw [show k + a + 2 * a = k + 2 * a + a by omega]; exact z)))
    · obtain ⟨j, rfl, hj⟩ := ns_E_odd ha q
      have q2 : ns_E a (j + 2 * a) = true := by rw [ns_E_two ha]; exact hj
      rw [show j + a + 2 * a = j + 2 * a + a by omega] at hk
      obtain ⟨z1, z2⟩ := (hp _ q2).2.mp hk
      exact (hp j hj).2.mpr ⟨h j z1, h (j + a) (by rw [show j + a + 2 * a = j + 2 * a + a by omega]; exact z2)⟩
  · intro i hi hk
    exact (hp i hi).1.mpr (Or.inl ((hp i hi).2.mp hk).1)
/-- a later pass: odd blocks against even ones b - a further on -/
theorem ns_next {a b n m : Nat} (ha : 0 < a) (hb : b = a * (2 * m)) (hm : 0 < m) (f : Nat → Int32) (t : Int) (h1 : ns_I n f t (2 * a)) (h2 : ∀ i, ns_E a i = true → ns_S n f t (i + a) → ns_S n f t i) (h3 : ∀ i, ns_E a i = true → ns_S n f t (i + 2 * b) → ns_S n f t (i + a)) :
    ns_I n (ns_pp a a b f (n - b)) t (2 * a) ∧ (∀ i, ns_E a i = true → ns_S n (ns_pp a a b f (n - b)) t (i + a) → ns_S n (ns_pp a a b f (n - b)) t i) ∧ (∀ i, ns_E a i = true → ns_S n (ns_pp a a b f (n - b)) t (i + b) → ns_S n (ns_pp a a b f (n - b)) t (i + a)) := by
  have hEb : ∀ i, ns_E a (i + b) = ns_E a i := fun i => by rw [hb]; exact ns_E_mul ha m
  have hab : 2 * a ≤ b := by
    rw [hb]
    have := Nat.mul_le_mul_left a (show 2 * 1 ≤ 2 * m by omega)
    omega
  have hd : ∀ i j, ns_E a i = true → ns_E a j = true → i + a ≠ j + b := fun i j hi hj z =>
    ns_E_not ha (by rw [hEb]; exact hj) hi z.symm
  have hmul : ∀ k, ns_S n f t (k + b) → ns_S n f t k := fun k hk => ns_I_mul h1 m k (by
    rw [show 2 * a * m = b by rw [hb, Nat.mul_comm 2 a, Nat.mul_assoc]]; exact hk)
  obtain ⟨hp, hq⟩ := ns_pp_S (n := n) f t hd (show a < b by omega)
  have h0 : ∀ k, ns_E a k = true → k < b → (ns_S n (ns_pp a a b f (n - b)) t k ↔ ns_S n f t k) := fun k hk hl =>
    hq k fun i hi => ⟨ns_E_not ha hk hi, by omega⟩
  clear hq
  generalize ns_pp a a b f (n - b) = g at hp h0 ⊢
  have hup : ∀ k, b ≤ k → ns_E a k = true → ∃ j, k = j + b ∧ ns_E a j = true := fun k hk hl => ⟨k - b, by omega, by
    have := hEb (k - b)
    rw [Nat.sub_add_cancel hk] at this
    rw [← this]; exact hl⟩
  refine ⟨?_, ?_, ?_⟩
  · intro k hk
    by_cases q : ns_E a k = true
    · have q2 : ns_E a (k + 2 * a) = true := by rw [ns_E_two ha]; exact q
      rcases Nat.lt_or_ge k b with y | y
      · rw [h0 k q y]
        rcases Nat.lt_or_ge (k + 2 * a) b with y2 | y2
        · exact h1 k ((h0 _ q2 y2).mp hk)
        · obtain ⟨j, ej, hj⟩ := hup _ y2 q2
          rw [ej] at hk
          have z := ((hp j hj).2.mp hk).2
          rw [← ej] at z
          exact h1 k z
      · obtain ⟨j, rfl, hj⟩ := hup k y q
        have q3 : ns_E a (j + 2 * a) = true := by rw [ns_E_two ha]; exact hj
        rw [show j + b + 2 * a = j + 2 * a + b by omega] at hk
        obtain ⟨z1, z2⟩ := (hp _ q3).2.mp hk
        exact (hp j hj).2.mpr ⟨h1 (j + a) (by rw [show j + a + 2 * a = j + 2 * a + a by omega]; exact z1), h1 (j + b) (by rw [show j + b + 2 * a = j + 2 * a + b by omega]; exact z2)⟩
    · obtain ⟨j, rfl, hj⟩ := ns_E_odd ha q
      have q2 : ns_E a (j + 2 * a) = true := by rw [ns_E_two ha]; exact hj
      rw [show j + a + 2 * a = j + 2 * a + a by omega] at hk
      rcases (hp _ q2).1.mp hk with z | z
      · exact (hp j hj).1.mpr (Or.inl (h1 (j + a) (by rw [show j + a + 2 * a = j + 2 * a + a by omega]; exact z)))
      · exact (hp j hj).1.mpr (Or.inr (h1 (j + b) (by rw [show j + b + 2 * a = j + 2 * a + b by omega]; exact z)))
  · intro i hi hk
    rcases Nat.lt_or_ge i b with y | y
    · rw [h0 i hi y]
      rcases (hp i hi).1.mp hk with z | z
      · exact h2 i hi z
      · exact hmul i z
    · obtain ⟨j, rfl, hj⟩ := hup i y hi
      rcases (hp _ hi).1.mp hk with z | z
      · refine (hp j hj).2.mpr ⟨hmul (j + a) ?_, h2 _ hi z⟩
        rw [show j + a + b = j + b + a by omega]
        exact z
      · refine (hp j hj).2.mpr ⟨h3 j hj ?_, hmul (j + b) z⟩
        rw [show j + 2 * b = j + b + b by omega]
        exact z
  · intro i hi hk
    exact (hp i hi).1.mpr (Or.inl ((hp i hi).2.mp hk).1)
/-! ===== the stages ===== -/
def ns_mid (n a : Nat) : Nat → (Nat → Int32) → (Nat → Int32)
  | 0, f => f
  | k + 1, f => ns_mid n a k (ns_pp a a (a * 2 ^ (k + 1)) f (n - a * 2 ^ (k + 1)))
def ns_out (n T : Nat) : Nat → (Nat → Int32) → (Nat → Int32)
  | 0, f => f
  | s + 1, f => ns_out n T s (ns_mid n (2 ^ s) (T - s) (ns_pp (2 ^ s) 0 (2 ^ s) f (n - 2 ^ s)))
theorem ns_mid_I {n a : Nat} (ha : 0 < a) (t : Int) : ∀ (k : Nat) (f : Nat → Int32), ns_I n f t (2 * a) → (∀ i, ns_E a i = true → ns_S n f t (i + a) → ns_S n f t i) → (∀ i, ns_E a i = true → ns_S n f t (i + 2 * (a * 2 ^ k)) → ns_S n f t (i + a)) → ns_I n (ns_mid n a k f) t a := by
  intro k
  induction k with
  | zero =>
    intro f h1 h2 h3 k hk
    show ns_S n f t k
    have hk : ns_S n f t (k + a) := hk
    by_cases q : ns_E a k = true
    · exact h2 k q hk
    · obtain ⟨j, rfl, hj⟩ := ns_E_odd ha q
      refine h3 j hj ?_
      rw [show j + 2 * (a * 2 ^ 0) = j + a + a by omega]
      exact hk
  | succ k ih =>
    intro f h1 h2 h3
    show ns_I n (ns_mid n a k (ns_pp a a (a * 2 ^ (k + 1)) f (n - a * 2 ^ (k + 1)))) t a
    obtain ⟨g1, g2, g3⟩ := ns_next (a := a) (b := a * 2 ^ (k + 1)) (n := n) (m := 2 ^ k) ha (by rw [Nat.pow_succ, Nat.mul_comm (2 ^ k) 2]) (Nat.two_pow_pos k) f t h1 h2 h3
    refine ih _ g1 g2 (fun i hi hk => g3 i hi ?_)
    rw [show 2 * (a * 2 ^ k) = a * 2 ^ (k + 1) by rw [Nat.pow_succ, Nat.mul_comm 2 (a * 2 ^ k), Nat.mul_assoc]] at hk
    exact hk
theorem ns_out_I {n T : Nat} (hn : n ≤ 2 ^ (T + 1)) (t : Int) : ∀ (s : Nat) (f : Nat → Int32), s ≤ T + 1 → ns_I n f t (2 ^ s) → ns_I n (ns_out n T s f) t 1 := by
  intro s
  induction s with
  | zero => intro f _ h; exact h
  | succ s ih =>
    intro f hs h
    show ns_I n (ns_out n T s (ns_mid n (2 ^ s) (T - s) (ns_pp (2 ^ s) 0 (2 ^ s) f (n - 2 ^ s)))) t 1
    have ha : 0 < 2 ^ s := Nat.two_pow_pos s
    have h' : ns_I n f t (2 * 2 ^ s) := by rw [Nat.mul_comm, ← Nat.pow_succ]; exact h
    obtain ⟨g1, g2⟩ := ns_first (n := n) ha f t h'
    refine ih _ (by omega) (ns_mid_I ha t (T - s) _ g1 g2 (fun i _ hk => ?_))
    have e : 2 * (2 ^ s * 2 ^ (T - s)) = 2 ^ (T + 1) := by
      rw [← Nat.pow_add, show s + (T - s) = T by omega, Nat.pow_succ, Nat.mul_comm]
    rw [e] at hk
    exact absurd hk.1 (by omega)
def ns_sorted (n : Nat) (f : Nat → Int32) : Prop := ∀ k, k + 1 < n → (f k).toInt ≤ (f (k + 1)).toInt
theorem ns_out_sorted {n T : Nat} (hn : n ≤ 2 ^ (T + 1)) (f : Nat → Int32) : ns_sorted n (ns_out n T (T + 1) f) := by
  intro k hk
  rcases Int.lt_or_le (ns_out n T (T + 1) f (k + 1)).toInt (ns_out n T (T + 1) f k).toInt with q | q
  · have h := ns_out_I hn (ns_out n T (T + 1) f k).toInt (T + 1) f (Nat.le_refl _) (fun i hi => absurd hi.1 (by omega)) k ⟨hk, q⟩
    exact absurd h.2 (by omega)
  · exact q
/-! ===== the same numbers, each as often ===== -/
def ns_ct (n : Nat) (f : Nat → Int32) (t : Int) : Nat := fb_ct (fun k => decide ((f k).toInt < t)) n
def ns_same (n : Nat) (f g : Nat → Int32) : Prop := (∀ t : Int, ns_ct n g t = ns_ct n f t) ∧ ∀ k, n ≤ k → g k = f k
theorem ns_same_rf (n : Nat) (f : Nat → Int32) : ns_same n f f := ⟨fun _ => rfl, fun _ _ => rfl⟩
theorem ns_same_tr {n : Nat} {f g h : Nat → Int32} (a : ns_same n f g) (b : ns_same n g h) : ns_same n f h := ⟨fun t => (b.1 t).trans (a.1 t), fun k hk => (b.2 k hk).trans (a.2 k hk)⟩
theorem ns_ct_upd (f : Nat → Int32) (v : Int32) (t : Int) {i n : Nat} (h : i < n) : ns_ct n (upd f i v) t + (if (f i).toInt < t then 1 else 0) = ns_ct n f t + (if v.toInt < t then 1 else 0) := by
  have e : (fun k => decide ((upd f i v k).toInt < t)) = fun k => if k = i then decide (v.toInt < t) else decide ((f k).toInt < t) := by
    funext k
    by_cases q : k = i
    · rw [if_pos q, q, pk_us]
    · rw [if_neg q, pk_un q]
  have h1 := fb_ct_upd (fun k => decide ((f k).toInt < t)) (decide (v.toInt < t)) h
  simp only [decide_eq_true_eq] at h1
  unfold ns_ct
  rw [e]
  exact h1
theorem ns_cx_same {n i j : Nat} (f : Nat → Int32) (hi : i < n) (hj : j < n) (hij : i ≠ j) : ns_same n f (ns_cx f i j) := by
  refine ⟨fun t => ?_, fun k hk => ?_⟩
  · have h1 := ns_ct_upd f (ns_mn (f i) (f j)) t hi
    have h2 := ns_ct_upd (upd f i (ns_mn (f i) (f j))) (ns_mx (f i) (f j)) t hj
    rw [pk_un (Ne.symm hij)] at h2
    unfold ns_cx
    by_cases q : (f j).toInt < (f i).toInt
    · have a1 : ns_mn (f i) (f j) = f j := if_pos q
      have a2 : ns_mx (f i) (f j) = f i := if_pos q
      rw [a1] at h1 h2
      rw [a2] at h2
      rw [a1, a2]
      omega
    · have a1 : ns_mn (f i) (f j) = f i := if_neg q
      have a2 : ns_mx (f i) (f j) = f j := if_neg q
      rw [a1] at h1 h2
      rw [a2] at h2
      rw [a1, a2]
      omega
  · unfold ns_cx
    rw [pk_un (by omega), pk_un (by omega)]
theorem ns_pp_same {n a al be : Nat} (f : Nat → Int32) (h : al < be) : ∀ m, m ≤ n - be → ns_same n f (ns_pp a al be f m) := by
  intro m
  induction m with
  | zero => intro _; exact ns_same_rf n f
  | succ m ih =>
    intro hm
    have h1 := ih (by omega)
    by_cases q : ns_E a m = true
    · rw [ns_pp_t q]
      exact ns_same_tr h1 (ns_cx_same _ (by omega) (by omega) (by omega))
    · rw [ns_pp_f q]
      exact h1
theorem ns_mid_same {n a : Nat} (ha : 0 < a) : ∀ (k : Nat) (f : Nat → Int32), ns_same n f (ns_mid n a k f) := by
  intro k
  induction k with
  | zero => intro f; exact ns_same_rf n f
  | succ k ih =>
    intro f
    have h2 : a * 2 ≤ a * 2 ^ (k + 1) := Nat.mul_le_mul_left a (by rw [Nat.pow_succ]; have := Nat.two_pow_pos k; omega)
    exact ns_same_tr (ns_pp_same (al := a) (be := a * 2 ^ (k + 1)) (a := a) f (by omega) _ (Nat.le_refl _)) (ih _)
theorem ns_out_same {n T : Nat} : ∀ (s : Nat) (f : Nat → Int32), ns_same n f (ns_out n T s f) := by
  intro s
  induction s with
  | zero => intro f; exact ns_same_rf n f
  | succ s ih =>
    intro f
    have ha : 0 < 2 ^ s := Nat.two_pow_pos s
    exact ns_same_tr (ns_pp_same (al := 0) (be := 2 ^ s) (a := 2 ^ s) f ha _ (Nat.le_refl _)) (ns_same_tr (ns_mid_same ha _ _) (ih _))
/-! ===== two sorted rows of the same numbers are one ===== -/
theorem ns_sorted_le {n : Nat} {f : Nat → Int32} (h : ns_sorted n f) : ∀ (d j : Nat), j + d < n → (f j).toInt ≤ (f (j + d)).toInt := by
  intro d
  induction d with
  | zero => intro j _; exact Int.le_refl _
  | succ d ih =>
    intro j hj
    exact Int.le_trans (ih j (by omega)) (h (j + d) (by omega))
theorem ns_sorted_ct {n k : Nat} {f : Nat → Int32} (h : ns_sorted n f) (hk : k < n) (t : Int) : (f k).toInt < t ↔ k < ns_ct n f t := by
  constructor
  · intro q
    have h1 : fb_ct (fun k => decide ((f k).toInt < t)) (k + 1) = k + 1 := fb_ct_all.mpr fun j hj => by
      have h2 := ns_sorted_le h (k - j) j (by omega)
      rw [show j + (k - j) = k by omega] at h2
      exact decide_eq_true (by omega)
    have h3 := fb_ct_mono (fun k => decide ((f k).toInt < t)) (show k + 1 ≤ n by omega)
    unfold ns_ct
    omega
  · intro q
    rcases Int.lt_or_le (f k).toInt t with z | z
    · exact z
    · have h1 := fb_ct_split (fun k => decide ((f k).toInt < t)) k (n - k)
      rw [show k + (n - k) = n by omega] at h1
      have h2 : fb_ct (fun j => decide ((f (k + j)).toInt < t)) (n - k) = 0 := fb_ct_zero.mpr fun j hj => by
        have h3 := ns_sorted_le h j k (by omega)
        exact decide_eq_false (by omega)
      have h4 := fb_ct_le (fun k => decide ((f k).toInt < t)) k
      unfold ns_ct at q
      omega
theorem ns_uniq {n : Nat} {f g r : Nat → Int32} (hf : ns_sorted n f) (hg : ns_sorted n g) (sf : ns_same n r f) (sg : ns_same n r g) : f = g := by
  funext k
  rcases Nat.lt_or_ge k n with q | q
  · have h1 : ∀ t : Int, (f k).toInt < t ↔ (g k).toInt < t := fun t => by
      rw [ns_sorted_ct hf q t, ns_sorted_ct hg q t, sf.1 t, sg.1 t]
    have h2 := (h1 ((f k).toInt + 1)).mp (by omega)
    have h3 := (h1 ((g k).toInt + 1)).mpr (by omega)
    exact Int32.toInt_inj.mp (by omega)
  · rw [sf.2 k q, sg.2 k q]
/-! ===== the law's plain sort ===== -/
def ns_ins (v : Int32) : Nat → (Nat → Int32) → (Nat → Int32)
  | 0, f => upd f 0 v
  | k + 1, f => if v.toInt < (f k).toInt then ns_ins v k (upd f (k + 1) (f k)) else upd f (k + 1) v
theorem ns_ins_t {v : Int32} {k : Nat} {f : Nat → Int32} (h : v.toInt < (f k).toInt) : ns_ins v (k + 1) f = ns_ins v k (upd f (k + 1) (f k)) := by
  show (if v.toInt < (f k).toInt then ns_ins v k (upd f (k + 1) (f k)) else upd f (k + 1) v) = _
  rw [if_pos h]
theorem ns_ins_f {v : Int32} {k : Nat} {f : Nat → Int32} (h : ¬ v.toInt < (f k).toInt) : ns_ins v (k + 1) f = upd f (k + 1) v := by
  show (if v.toInt < (f k).toInt then ns_ins v k (upd f (k + 1) (f k)) else upd f (k + 1) v) = _
  rw [if_neg h]
def ns_srt (f : Nat → Int32) : Nat → (Nat → Int32)
  | 0 => f
  | m + 1 => ns_ins (ns_srt f m (m + 1)) (m + 1) (ns_srt f m)
theorem ns_ins_same {n : Nat} {v : Int32} : ∀ (k : Nat) (f : Nat → Int32), k < n → ns_same n (upd f k v) (ns_ins v k f) := by
  intro k
  induction k with
  | zero => intro f _; exact ns_same_rf n _
  | succ k ih =>
    intro f hk
    by_cases q : v.toInt < (f k).toInt
    · rw [ns_ins_t q]
      refine ns_same_tr ⟨fun t => ?_, fun j hj => ?_⟩ (ih _ (by omega))
      · have h1 := ns_ct_upd f v t hk
        have h2 := ns_ct_upd f (f k) t hk
        have h3 := ns_ct_upd (upd f (k + 1) (f k)) v t (show k < n by omega)
        rw [pk_un (show k ≠ k + 1 by omega)] at h3
        omega
      · rw [pk_un (by omega), pk_un (by omega), pk_un (by omega)]
    · rw [ns_ins_f q]
      exact ns_same_rf n _
theorem ns_upd_id (f : Nat → Int32) (i : Nat) : upd f i (f i) = f := by
  funext k
  by_cases q : k = i
  · rw [q, pk_us]
  · rw [pk_un q]
theorem ns_srt_same {n : Nat} (f : Nat → Int32) : ∀ m, m + 1 ≤ n → ns_same n f (ns_srt f m) := by
  intro m
  induction m with
  | zero => intro _; exact ns_same_rf n f
  | succ m ih =>
    intro hm
    have h1 := ns_ins_same (n := n) (v := ns_srt f m (m + 1)) (m + 1) (ns_srt f m) (by omega)
    rw [ns_upd_id] at h1
    exact ns_same_tr (ih (by omega)) h1
theorem ns_ins_sorted {N : Nat} {v : Int32} : ∀ (k : Nat) (f : Nat → Int32), k ≤ N → (∀ j, j + 1 < k → (f j).toInt ≤ (f (j + 1)).toInt) → (∀ j, k < j → j + 1 ≤ N → (f j).toInt ≤ (f (j + 1)).toInt) → (k < N → v.toInt ≤ (f (k + 1)).toInt) → (∀ j, k = j + 1 → k < N → (f j).toInt ≤ (f (k + 1)).toInt) →
    ∀ j, j + 1 ≤ N → (ns_ins v k f j).toInt ≤ (ns_ins v k f (j + 1)).toInt := by
  intro k
  induction k with
  | zero =>
    intro f hk h1 h2 h3 h4 j hj
    show (upd f 0 v j).toInt ≤ (upd f 0 v (j + 1)).toInt
    rw [pk_un (show j + 1 ≠ 0 by omega)]
    by_cases q : j = 0
    · subst q
      rw [pk_us]
      exact h3 (by omega)
    · rw [pk_un q]
      exact h2 j (by omega) hj
  | succ k ih =>
    intro f hk h1 h2 h3 h4
    by_cases q : v.toInt < (f k).toInt
    · rw [ns_ins_t q]
      refine ih _ (by omega) (fun j hj => ?_) (fun j hj hj2 => ?_) (fun hl => ?_) (fun j hj hl => ?_)
      · rw [pk_un (show j ≠ k + 1 by omega), pk_un (show j + 1 ≠ k + 1 by omega)]
        exact h1 j (by omega)
      · rw [pk_un (show j + 1 ≠ k + 1 by omega)]
        by_cases z : j = k + 1
        · subst z
          rw [pk_us]
          exact h4 k rfl (by omega)
        · rw [pk_un z]
          exact h2 j (by omega) hj2
      · rw [pk_us]
        omega
      · rw [pk_us, pk_un (show j ≠ k + 1 by omega)]
        have h5 := h1 j (by omega)
        rw [← hj] at h5
        exact h5
    · rw [ns_ins_f q]
      intro j hj
      by_cases z : j = k + 1
      · subst z
        rw [pk_us, pk_un (show k + 1 + 1 ≠ k + 1 by omega)]
        exact h3 (by omega)
      · rw [pk_un z]
        by_cases y : j = k
        · subst y
          rw [pk_us]
          omega
        · rw [pk_un (show j + 1 ≠ k + 1 by omega)]
          rcases Nat.lt_or_ge j k with x | x
          · exact h1 j (by omega)
          · exact h2 j (by omega) hj
theorem ns_srt_sorted (f : Nat → Int32) : ∀ m j, j + 1 ≤ m → (ns_srt f m j).toInt ≤ (ns_srt f m (j + 1)).toInt := by
  intro m
  induction m with
  | zero => intro j hj; exact absurd hj (by omega)
  | succ m ih =>
    intro j hj
    exact ns_ins_sorted (N := m + 1) (m + 1) (ns_srt f m) (Nat.le_refl _) (fun i hi => ih i (by omega)) (fun i hi hi2 => absurd hi2 (by omega)) (fun h => absurd h (by omega)) (fun i _ h => absurd h (by omega)) j hj
/-- THE PLAIN LAW: the network and the plain sort come to the same row -/
theorem ns_agree {n T : Nat} (h2 : 2 ≤ n) (hn : n ≤ 2 ^ (T + 1)) (f : Nat → Int32) : ns_out n T (T + 1) f = ns_srt f (n - 1) :=
  ns_uniq (n := n) (r := f) (ns_out_sorted hn f) (fun k hk => ns_srt_sorted f (n - 1) k (by omega)) (ns_out_same (T + 1) f) (ns_srt_same f (n - 1) (by omega))
/-- a row that stands sorted stays -/
theorem ns_srt_id {n : Nat} (h2 : 2 ≤ n) {f : Nat → Int32} (hf : ns_sorted n f) : ns_srt f (n - 1) = f :=
  ns_uniq (n := n) (r := f) (fun k hk => ns_srt_sorted f (n - 1) k (by omega)) hf (ns_srt_same f (n - 1) (by omega)) (ns_same_rf n f)
/-! ===== numbers of 30 bits stay so ===== -/
def ns_bd (f : Nat → Int32) : Prop := ∀ k, 0 ≤ (f k).toInt ∧ (f k).toInt < 1073741824
theorem ns_bd_upd {f : Nat → Int32} {i : Nat} {v : Int32} (h : ns_bd f) (hv : 0 ≤ v.toInt ∧ v.toInt < 1073741824) : ns_bd (upd f i v) := by
  intro k
  by_cases q : k = i
  · rw [q, pk_us]; exact hv
  · rw [pk_un q]; exact h k
theorem ns_bd_cx {f : Nat → Int32} (h : ns_bd f) (i j : Nat) : ns_bd (ns_cx f i j) := by
  unfold ns_cx
  refine ns_bd_upd (ns_bd_upd h ?_) ?_
  · unfold ns_mn
    split
    · exact h j
    · exact h i
  · unfold ns_mx
    split
    · exact h i
    · exact h j
theorem ns_bd_pp {f : Nat → Int32} (h : ns_bd f) (a al be : Nat) : ∀ m, ns_bd (ns_pp a al be f m) := by
  intro m
  induction m with
  | zero => exact h
  | succ m ih =>
    by_cases q : ns_E a m = true
    · rw [ns_pp_t q]; exact ns_bd_cx ih _ _
    · rw [ns_pp_f q]; exact ih
theorem ns_bd_mid (n a : Nat) : ∀ (k : Nat) (f : Nat → Int32), ns_bd f → ns_bd (ns_mid n a k f) := by
  intro k
  induction k with
  | zero => intro f h; exact h
  | succ k ih => intro f h; exact ih _ (ns_bd_pp h _ _ _ _)
theorem ns_bd_ins {v : Int32} (hv : 0 ≤ v.toInt ∧ v.toInt < 1073741824) : ∀ (k : Nat) (f : Nat → Int32), ns_bd f → ns_bd (ns_ins v k f) := by
  intro k
  induction k with
  | zero => intro f h; exact ns_bd_upd h hv
  | succ k ih =>
    intro f h
    by_cases q : v.toInt < (f k).toInt
    · rw [ns_ins_t q]; exact ih _ (ns_bd_upd h (h k))
    · rw [ns_ins_f q]; exact ns_bd_upd h hv
theorem ns_bd_srt {f : Nat → Int32} (h : ns_bd f) : ∀ m, ns_bd (ns_srt f m) := by
  intro m
  induction m with
  | zero => exact h
  | succ m ih => exact ns_bd_ins (ih (m + 1)) (m + 1) _ ih
theorem ns_bd_0 : ns_bd (fun _ => 0) := fun _ => (by decide +kernel : 0 ≤ (0 : Int32).toInt ∧ (0 : Int32).toInt < 1073741824)
/-- the cut to 30 bits -/
theorem ns_cut_bd (v : Int32) : 0 ≤ (v &&& 1073741823).toInt ∧ (v &&& 1073741823).toInt < 1073741824 := by
  obtain ⟨j, hj, e⟩ := pk_andE v (m := 1073741823) 30 (by decide)
  rw [e, nI_toInt (by omega)]
  omega
/-- the filling, i places of it done -/
def ns_fil (f : Nat → Int32) (x y : Int32) (i : Nat) : Nat → Int32 := fun k => if k < i then (x + y * nI k) &&& 1073741823 else f k
theorem ns_fil_0 (f : Nat → Int32) (x y : Int32) : ns_fil f x y 0 = f := funext fun k => if_neg (Nat.not_lt_zero k)
theorem ns_fil_s (f : Nat → Int32) (x y : Int32) (i : Nat) : upd (ns_fil f x y i) i ((x + y * nI i) &&& 1073741823) = ns_fil f x y (i + 1) := by
  funext k
  by_cases q : k = i
  · subst q
    rw [pk_us]
    exact (if_pos (Nat.lt_succ_self k)).symm
  · rw [pk_un q]
    unfold ns_fil
    by_cases z : k < i
    · rw [if_pos z, if_pos (by omega)]
    · rw [if_neg z, if_neg (by omega)]
theorem ns_bd_fil {f : Nat → Int32} (h : ns_bd f) (x y : Int32) (i : Nat) : ns_bd (ns_fil f x y i) := by
  intro k
  unfold ns_fil
  split
  · exact ns_cut_bd _
  · exact h k
/-- the sum, i places of it done -/
def ns_sum (f : Nat → Int32) : Nat → Int64
  | 0 => 0
  | i + 1 => ns_sum f i * 31 + (f i).toInt64
/-- the length that n asks for -/
def ns_len (b : Int32) : Nat := 2 + b.toBitVec.toNat % 2 ^ 31 % 63
theorem ns_len_in (b : Int32) : 2 ≤ ns_len b ∧ ns_len b ≤ 64 := by
  unfold ns_len
  omega
theorem ns_len_eq (b : Int32) : nI 2 + ((b &&& 2147483647) - (b &&& 2147483647) / nI 63 * nI 63) = nI (ns_len b) := by
  rw [pk_and b (m := 2147483647) 31 (by decide), pk_rem (Nat.mod_lt _ (by decide)) (by decide) (by decide), nI_add]
  rfl
theorem ns_len_n {n : Nat} (h2 : 2 ≤ n) (h : n ≤ 64) : ns_len (nI (n - 2)) = n := by
  unfold ns_len
  rw [pk_tn (by omega)]
  omega
/-- the place that i asks for -/
def ns_at (i : Int32) : Nat := i.toBitVec.toNat % 64
theorem ns_at_lt (i : Int32) : ns_at i < 64 := Nat.mod_lt _ (by decide)
theorem ns_at_eq (i : Int32) : i &&& nI 63 = nI (ns_at i) := pk_and i (m := nI 63) 6 (by decide)
theorem ns_at_n {k : Nat} (h : k < 64) : ns_at (nI k) = k := by
  unfold ns_at
  rw [pk_tn (by omega)]
  omega
theorem ns_at_sub {k : Nat} (h : k < 64) : ns_at (nI k - nI 64) = k := by
  unfold ns_at
  rw [Int32.toBitVec_sub, BitVec.toNat_sub, pk_tn (by omega), pk_tn (by omega)]
  omega
theorem ns_at_sub2 {k : Nat} (h : k < 64) : ns_at (nI k - nI 128) = k := by
  unfold ns_at
  rw [Int32.toBitVec_sub, BitVec.toNat_sub, pk_tn (by omega), pk_tn (by omega)]
  omega
theorem ns_at_add {k : Nat} (h : k < 64) : ns_at (nI k + 2147483584) = k := by
  unfold ns_at
  rw [show (2147483584 : Int32) = nI 2147483584 from rfl, nI_add, pk_tn (by omega)]
  omega
theorem ns_and_E {i s : Nat} (hi : i < 2 ^ 31) (hs : s < 31) : nI i &&& nI (2 ^ s) = 0 ↔ ns_E (2 ^ s) i = true := by
  have h2 : (2 : Nat) ^ s < 2 ^ 31 := Nat.pow_lt_pow_right (by decide) hs
  have hle : i &&& 2 ^ s ≤ 2 ^ s := Nat.and_le_right
  rw [nx_and, show (0 : Int32) = nI 0 from rfl, nI_eq (by omega) (by decide), fb_bit_nat, Nat.testBit_eq_decide_div_mod_eq, decide_eq_false_iff_not, ns_E_iff]
  omega
theorem ns_inc (i : Nat) : nI i + Int32.ofInt 1 = nI (i + 1) := nI_1 i
theorem ns_inc2 (i : Nat) : nI i + Int32.ofInt 2 = nI (i + 2) := nI_add i 2
theorem ns_dec (i : Nat) : nI (i + 1) + Int32.ofInt (-1) = nI i := pk_m1 i
/-- the comparator's mask -/
def ns_c1 (x y : Int32) : Int32 := (y - x) ^^^ ((x ^^^ y) &&& (((y - x) ^^^ y) ^^^ (-2147483648)))
def ns_c2 (x y : Int32) : Int32 := -(((ns_c1 x y).toUInt32 >>> ((nI 31).toUInt32 &&& Int32.toUInt32 31)).toInt32)
theorem ns_msb (x : Int32) : x.toBitVec.msb = decide (x.toInt < 0) := BitVec.msb_eq_toInt
theorem ns_c2_eq {x y : Int32} (hx : 0 ≤ x.toInt ∧ x.toInt < 1073741824) (hy : 0 ≤ y.toInt ∧ y.toInt < 1073741824) : ns_c2 x y = if y.toInt < x.toInt then -1 else 0 := by
  have hd : (y - x).toInt = y.toInt - x.toInt := fb_subI (by omega) (by omega)
  have h1 : (ns_c1 x y).toBitVec.msb = decide (y.toInt < x.toInt) := by
    unfold ns_c1
    rw [Int32.toBitVec_xor, Int32.toBitVec_and, Int32.toBitVec_xor, BitVec.msb_xor, BitVec.msb_and, BitVec.msb_xor, ns_msb x, ns_msb y, ns_msb (y - x), hd, decide_eq_false (show ¬ x.toInt < 0 by omega), decide_eq_false (show ¬ y.toInt < 0 by omega)]
    simp only [Bool.false_xor, Bool.false_and, Bool.xor_false]
    exact decide_eq_decide.mpr (by omega)
  rw [BitVec.msb_eq_decide] at h1
  have h2 : (((ns_c1 x y).toUInt32 >>> ((nI 31).toUInt32 &&& Int32.toUInt32 31)).toInt32).toBitVec.toNat = (ns_c1 x y).toBitVec.toNat / 2 ^ 31 := pk_ushr _ _ 31 (by decide +kernel)
  have h3 : (ns_c1 x y).toBitVec.toNat < 2 ^ 32 := (ns_c1 x y).toBitVec.isLt
  unfold ns_c2
  generalize (((ns_c1 x y).toUInt32 >>> ((nI 31).toUInt32 &&& Int32.toUInt32 31)).toInt32) = w at h2 ⊢
  by_cases q : y.toInt < x.toInt
  · rw [decide_eq_true q, decide_eq_true_eq] at h1
    have h1 : 2 ^ 31 ≤ (ns_c1 x y).toBitVec.toNat := h1
    have e : w = nI 1 := Int32.toBitVec_inj.mp (BitVec.eq_of_toNat_eq (by rw [h2, pk_tn (by decide)]; omega))
    rw [e, if_pos q]
    decide +kernel
  · rw [decide_eq_false q, decide_eq_false_iff_not] at h1
    have h1 : ¬ 2 ^ 31 ≤ (ns_c1 x y).toBitVec.toNat := h1
    have e : w = nI 0 := Int32.toBitVec_inj.mp (BitVec.eq_of_toNat_eq (by rw [h2, pk_tn (by decide)]; omega))
    rw [e, if_neg q]
    decide +kernel
theorem ns_x1 (x y : Int32) : x ^^^ ((-1) &&& (x ^^^ y)) = y := by
  refine b_ext fun i hi => ?_
  rw [b_xor, b_and, b_m1 i hi, b_xor]
  cases bt x i <;> cases bt y i <;> rfl
theorem ns_x2 (x y : Int32) : y ^^^ ((-1) &&& (x ^^^ y)) = x := by
  refine b_ext fun i hi => ?_
  rw [b_xor, b_and, b_m1 i hi, b_xor]
  cases bt x i <;> cases bt y i <;> rfl
theorem ns_x0 (y z : Int32) : y ^^^ (0 &&& z) = y := by
  refine b_ext fun i hi => ?_
  rw [b_xor, b_and, b_0]
  cases bt y i <;> rfl
theorem ns_swap {x y : Int32} (hx : 0 ≤ x.toInt ∧ x.toInt < 1073741824) (hy : 0 ≤ y.toInt ∧ y.toInt < 1073741824) : x ^^^ (ns_c2 x y &&& (x ^^^ y)) = ns_mn x y ∧ y ^^^ (ns_c2 x y &&& (x ^^^ y)) = ns_mx x y := by
  rw [ns_c2_eq hx hy]
  unfold ns_mn ns_mx
  by_cases q : y.toInt < x.toInt
  · rw [if_pos q, if_pos q, if_pos q]
    exact ⟨ns_x1 x y, ns_x2 x y⟩
  · rw [if_neg q, if_neg q, if_neg q]
    exact ⟨ns_x0 x _, ns_x0 y _⟩
end
section
/-! ===== rows of our own over the kit's ===== -/
abbrev vwCl : List vw_C := [(RX1, TX1, 2)]
def ns_Pre (D : va_G) (sz : Nat) (ws : va_W) (tys : List (ClassId × FieldType)) (av : List Value) : Array Value → State → Prop := va_Pc av (fun U => U.heap.size = sz ∧ va_P D vwCl ws U.heap ∧ va_K D vwCl tys U ∧ va_D (fun _ => True) ws)
abbrev ns_B (D : va_G) (tys : List (ClassId × FieldType)) (A : Nat → Prop) (ws : va_W) : Unit → State → Prop := fun _ t => va_P D vwCl ws t.heap ∧ va_K D vwCl tys t ∧ va_D A ws
theorem ns_fb {D : va_G} {sz : Nat} {ws : va_W} {tys : List (ClassId × FieldType)} {av : List Value} : FrameBlind (ns_Pre D sz ws tys av) := fun a U g mk q => by
  obtain ⟨q0, q1, qP, qK, qD⟩ := q
  exact ⟨q0, q1, qP, va_K.moved (u := U) (U := U.calling g mk a) (Vm.Alike.refl U.vm) qK, qD⟩
theorem ns_pr {D : va_G} {ws : va_W} {tys : List (ClassId × FieldType)} {av : List Value} {s : State} {H : Heap} {A : Nat → Prop} (hP : va_P D vwCl ws H) (hK : va_K D vwCl tys s) (hD : va_D A ws) : ∀ U : State, U.heap = H → s.WarmedH U.vm → ns_Pre D H.size ws tys av av.toArray U := fun U hU hW =>
  ⟨rfl, by rw [hU], by rw [hU]; exact hP, va_K.moved hW.alike hK, hD.weaken (fun _ _ _ _ => trivial)⟩
/-- the start of a method that reads the script, at b, alone -/
def ns_PX (D : va_G) (sz b L : Nat) (xs : Nat → Int32) (k : Nat) : Array Value → State → Prop := va_Pc [.ref b, .int (nI k)] (fun U => U.heap.size = sz ∧ va_P D vwCl [] U.heap ∧ va_K D vwCl [] U ∧ va_D (fun _ => True) [] ∧ va_X b L xs U U.heap)
theorem ns_fbX {D : va_G} {sz b L : Nat} {xs : Nat → Int32} {k : Nat} : FrameBlind (ns_PX D sz b L xs k) := fun a U g mk q => by
  obtain ⟨q0, q1, qP, qK, qD, qX⟩ := q
  exact ⟨q0, q1, qP, va_K.moved (u := U) (U := U.calling g mk a) (Vm.Alike.refl U.vm) qK, qD, va_X.moved (u := U) (U := U.calling g mk a) (Vm.Alike.refl U.vm) qX⟩
theorem ns_prX {D : va_G} {b L : Nat} {xs : Nat → Int32} {k : Nat} {s : State} {H : Heap} {A : Nat → Prop} (hP : va_P D vwCl [] H) (hK : va_K D vwCl [] s) (hD : va_D A []) (hX : va_X b L xs s H) : ∀ U : State, U.heap = H → s.WarmedH U.vm → ns_PX D H.size b L xs k ([.ref b, .int (nI k)] : List Value).toArray U := fun U hU hW =>
  ⟨rfl, by rw [hU], by rw [hU]; exact hP, va_K.moved hW.alike hK, hD.weaken (fun _ _ _ _ => trivial), by rw [hU]; exact va_X.moved hW.alike hX⟩
section NSW
variable {p : Program} {l : Launch} {e : Env} {R : Room} {s : State} {m : MethodId} {args : Array Value} {below : List Frame} {meth : Method} {c : Code} {H : Heap} {locs : List Loc} {cells slots : Nat} {Q : State → Prop}
variable {cc : ByteArray} {pc : Nat} {ls : Array Slot} {rest : List Value} {D : va_G} {cl : List vw_C} {A : Nat → Prop} {a : Nat} {tys : List (ClassId × FieldType)} {ws : va_W} {H0 : Heap}
theorem ns_as {x : Int32} (y : Int32) (h : x = y) (k : W p l e R s m args below meth c H locs cells slots Q (F0 m pc ls (.int y :: rest))) : W p l e R s m args below meth c H locs cells slots Q (F0 m pc ls (.int x :: rest)) := by
  subst h
  exact k
theorem ns_asl {x : Int64} (y : Int64) (h : x = y) (k : W p l e R s m args below meth c H locs cells slots Q (F0 m pc ls (.long y :: rest))) : W p l e R s m args below meth c H locs cells slots Q (F0 m pc ls (.long x :: rest)) := by
  subst h
  exact k
theorem ns_ald (hexec : p.tables.exec = Jvm.exec) (hb : c.code = cc) (hK : va_K D cl tys s) (hP : va_P D cl ws H) (q0 t0 : Nat) {cA : ClassId} {n : Nat} {f : Nat → Int32} (ha : ws[q0]? = some (a, .inl (cA, n, .inl f))) (ht : tys[t0]? = some (cA, .int)) {j : Nat} (hj : j < n) (hn : n < 2 ^ 31) (hdg : decode cc pc = .ok (.iaload, 1))
    (kk : W p l e R s m args below meth c H locs cells slots Q (F0 m (pc + 1) ls (.int (f j) :: rest))) : W p l e R s m args below meth c H locs cells slots Q (F0 m pc ls (.int (nI j) :: .ref a :: rest)) :=
  va_iald hexec hb hK hP q0 t0 ha ht (vp_in_nI hj hn) hdg (by rw [nI_clamp (Nat.lt_trans hj hn)]; exact kk)
theorem ns_ast (hexec : p.tables.exec = Jvm.exec) (hb : c.code = cc) (hK : va_K D cl tys s) (hP : va_P D cl ws H) (hD : va_D A ws) (hS : va_S A H0 H locs) (q0 t0 : Nat) {cA : ClassId} {n : Nat} {f : Nat → Int32} (ha : ws[q0]? = some (a, .inl (cA, n, .inl f))) (ht : tys[t0]? = some (cA, .int)) {j : Nat} {x : Int32} (hj : j < n) (hn : n < 2 ^ 31) (hdg : decode cc pc = .ok (.iastore, 1))
    (kk : ∀ (H1 : Heap) (locs1 : List Loc), va_P D cl (ws.set q0 (a, .inl (cA, n, .inl (upd f j x)))) H1 → va_D A (ws.set q0 (a, .inl (cA, n, .inl (upd f j x)))) → va_S A H0 H1 locs1 → W p l e R s m args below meth c H1 locs1 cells slots Q (F0 m (pc + 1) ls rest)) : W p l e R s m args below meth c H locs cells slots Q (F0 m pc ls (.int x :: .int (nI j) :: .ref a :: rest)) :=
  va_iast hexec hb hK hP hD hS q0 t0 ha ht (vp_in_nI hj hn) hdg (by rw [nI_clamp (Nat.lt_trans hj hn)]; exact kk)
end NSW
set_option maxHeartbeats 4000000 in
set_option maxRecDepth 100000 in
/-- Utils.minmax(L, i, j): one comparator -/
theorem met_minmax (l : Launch) (D : va_G) (sz : Nat) (h0 : Nat) (d0 : ClassId) (f : Nat → Int32) (i j : Nat) (hi : i < 64) (hj : j < 64) (hij : i ≠ j) (hf : ns_bd f) : Met l yX2_minmax (ws_ yX2_minmax cX2_minmax 7 none) ({ frames := 0, cells := 0, slots := 0, locals := 0 }) (ns_Pre D sz [(h0, .inl (d0, 64, .inl f))] [(d0, .int)] [.ref h0, .int (nI i), .int (nI j)]) (va_Qv (fun _ : Unit => True) (ns_B D [(d0, .int)] (va_A [(h0, .inl (d0, 64, .inl f))] sz) [(h0, .inl (d0, 64, .inl (ns_cx f i j)))]) (va_A [(h0, .inl (d0, 64, .inl f))] sz)) 0 0 (va_A [(h0, .inl (d0, 64, .inl f))] sz) := by
  refine Met.ofW (cc := cX2_minmax) (maxL := 7) (ret := none) (by decide) rfl ?_
  intro p e s m args below meth c s₁ B hml hv
  obtain ⟨rfl, hsz, hP, hK, hD0⟩ := hv
  have hx := B.exec
  have hb := B.bytes
  have hr := B.returns
  have hts := atoms_spec (ws := ws_ yX2_minmax cX2_minmax 7 none) B.pre
  have hts : ∀ w ∈ lw_all, w.before _ s = true := fun w h => hts w (List.mem_cons_of_mem _ h)
  have hown : s.vm.findClass RX2 = some m.cls := findClass_of_methodNamed B.named
  have hlocks := B.notSynchronized
  subst hsz
  have hD := hD0.self (sz := s.heap.size)
  generalize hAe : va_A [(h0, .inl (d0, 64, .inl f))] s.heap.size = A at hD ⊢
  have hA : ∀ q : Nat, s.heap.size ≤ q → A q := fun q h => by rw [← hAe]; exact Or.inr h
  have hS : va_S A s.heap s.heap [] := va_S.rf
  have hP : va_P D vwCl [(h0, .inl (d0, 64, .inl f))] s.heap := hP
  have hl := lv_entry ([.ref h0, .int (nI i), .int (nI j)]) (n := 7) (Nat.le_of_ble_eq_true rfl)
  rw [lg_entry_eq]
  generalize (lg_sl ([.ref h0, .int (nI i), .int (nI j)]) ++ List.replicate (7 - (lg_sl ([.ref h0, .int (nI i), .int (nI j)])).length) Slot.unset).toArray = ls at hl ⊢
  have hl : lv_has ls 7 [(0, .ref h0), (1, .int (nI i)), (2, .int (nI j))] := hl
  refine lv_aload_n hx hb dX2_minmax_0 rfl (lv_at hl 0 rfl) ?_
  refine lv_iload_n hx hb dX2_minmax_1 rfl (lv_at hl 1 rfl) ?_
  refine ns_ald hx hb hK hP 0 0 rfl rfl (j := i) hi (by decide) dX2_minmax_2 ?_
  refine lv_istore_n (lv' := [(3, .int (f i)), (0, .ref h0), (1, .int (nI i)), (2, .int (nI j))]) hx hb dX2_minmax_3 rfl hl (by decide) rfl (fun ls hl => ?_)
  refine lv_aload_n hx hb dX2_minmax_4 rfl (lv_at hl 1 rfl) ?_
  refine lv_iload_n hx hb dX2_minmax_5 rfl (lv_at hl 3 rfl) ?_
  refine ns_ald hx hb hK hP 0 0 rfl rfl (j := j) hj (by decide) dX2_minmax_6 ?_
  refine lv_istore (lv' := [(4, .int (f j)), (3, .int (f i)), (0, .ref h0), (1, .int (nI i)), (2, .int (nI j))]) hx hb dX2_minmax_7 hl (by decide) rfl (fun ls hl => ?_)
  refine lv_iload_n hx hb dX2_minmax_9 rfl (lv_at hl 1 rfl) ?_
  refine lv_iload hx hb dX2_minmax_10 (lv_at hl 0 rfl) ?_
  refine lv_ixor hx hb dX2_minmax_12 ?_
  refine lv_istore (lv' := [(5, .int ((f i) ^^^ (f j))), (4, .int (f j)), (3, .int (f i)), (0, .ref h0), (1, .int (nI i)), (2, .int (nI j))]) hx hb dX2_minmax_13 hl (by decide) rfl (fun ls hl => ?_)
  refine lv_iload hx hb dX2_minmax_15 (lv_at hl 1 rfl) ?_
  refine lv_iload_n hx hb dX2_minmax_17 rfl (lv_at hl 2 rfl) ?_
  refine lv_isub hx hb dX2_minmax_18 ?_
  refine lv_istore (lv' := [(6, .int ((f j) - (f i))), (5, .int ((f i) ^^^ (f j))), (4, .int (f j)), (3, .int (f i)), (0, .ref h0), (1, .int (nI i)), (2, .int (nI j))]) hx hb dX2_minmax_19 hl (by decide) rfl (fun ls hl => ?_)
  refine lv_iload hx hb dX2_minmax_21 (lv_at hl 0 rfl) ?_
  refine lv_iload hx hb dX2_minmax_23 (lv_at hl 1 rfl) ?_
  refine lv_iload hx hb dX2_minmax_25 (lv_at hl 0 rfl) ?_
  refine lv_iload hx hb dX2_minmax_27 (lv_at hl 2 rfl) ?_
  refine lv_ixor hx hb dX2_minmax_29 ?_
  refine lv_ldc (v := (-2147483648)) hx hb hown (hts _ q43) dX2_minmax_30 ?_
  refine lv_ixor hx hb dX2_minmax_32 ?_
  refine lv_iand hx hb dX2_minmax_33 ?_
  refine lv_ixor hx hb dX2_minmax_34 ?_
  refine ns_as (ns_c1 (f i) (f j)) rfl ?_
  refine lv_istore (lv' := [(6, .int (ns_c1 (f i) (f j))), (5, .int ((f i) ^^^ (f j))), (4, .int (f j)), (3, .int (f i)), (0, .ref h0), (1, .int (nI i)), (2, .int (nI j))]) hx hb dX2_minmax_35 hl (by decide) rfl (fun ls hl => ?_)
  refine lv_iload hx hb dX2_minmax_37 (lv_at hl 0 rfl) ?_
  refine lv_bipush (v := nI 31) hx hb dX2_minmax_39 (by decide +kernel) ?_
  refine lv_iushr (v := (((ns_c1 (f i) (f j)).toUInt32 >>> ((nI 31).toUInt32 &&& Int32.toUInt32 31)).toInt32)) hx hb dX2_minmax_41 rfl ?_
  refine lv_istore (lv' := [(6, .int (((ns_c1 (f i) (f j)).toUInt32 >>> ((nI 31).toUInt32 &&& Int32.toUInt32 31)).toInt32)), (5, .int ((f i) ^^^ (f j))), (4, .int (f j)), (3, .int (f i)), (0, .ref h0), (1, .int (nI i)), (2, .int (nI j))]) hx hb dX2_minmax_42 hl (by decide) rfl (fun ls hl => ?_)
  refine lv_iload hx hb dX2_minmax_44 (lv_at hl 0 rfl) ?_
  refine lv_ineg hx hb dX2_minmax_46 ?_
  refine ns_as (ns_c2 (f i) (f j)) rfl ?_
  refine lv_istore (lv' := [(6, .int (ns_c2 (f i) (f j))), (5, .int ((f i) ^^^ (f j))), (4, .int (f j)), (3, .int (f i)), (0, .ref h0), (1, .int (nI i)), (2, .int (nI j))]) hx hb dX2_minmax_47 hl (by decide) rfl (fun ls hl => ?_)
  refine lv_iload hx hb dX2_minmax_49 (lv_at hl 0 rfl) ?_
  refine lv_iload hx hb dX2_minmax_51 (lv_at hl 1 rfl) ?_
  refine lv_iand hx hb dX2_minmax_53 ?_
  refine lv_istore (lv' := [(6, .int ((ns_c2 (f i) (f j)) &&& ((f i) ^^^ (f j)))), (5, .int ((f i) ^^^ (f j))), (4, .int (f j)), (3, .int (f i)), (0, .ref h0), (1, .int (nI i)), (2, .int (nI j))]) hx hb dX2_minmax_54 hl (by decide) rfl (fun ls hl => ?_)
  refine lv_aload_n hx hb dX2_minmax_56 rfl (lv_at hl 4 rfl) ?_
  refine lv_iload_n hx hb dX2_minmax_57 rfl (lv_at hl 5 rfl) ?_
  refine lv_iload_n hx hb dX2_minmax_58 rfl (lv_at hl 3 rfl) ?_
  refine lv_iload hx hb dX2_minmax_59 (lv_at hl 0 rfl) ?_
  refine lv_ixor hx hb dX2_minmax_61 ?_
  refine ns_as (ns_mn (f i) (f j)) ((ns_swap (hf i) (hf j)).1) ?_
  refine ns_ast hx hb hK hP hD hS 0 0 rfl rfl (j := i) hi (by decide) dX2_minmax_62 (fun H locs hP hD hS => ?_)
  have hP : va_P D vwCl [(h0, .inl (d0, 64, .inl (upd f i (ns_mn (f i) (f j)))))] H := hP
  have hD : va_D A [(h0, .inl (d0, 64, .inl (upd f i (ns_mn (f i) (f j)))))] := hD
  refine lv_aload_n hx hb dX2_minmax_63 rfl (lv_at hl 4 rfl) ?_
  refine lv_iload_n hx hb dX2_minmax_64 rfl (lv_at hl 6 rfl) ?_
  refine lv_iload hx hb dX2_minmax_65 (lv_at hl 2 rfl) ?_
  refine lv_iload hx hb dX2_minmax_67 (lv_at hl 0 rfl) ?_
  refine lv_ixor hx hb dX2_minmax_69 ?_
  refine ns_as (ns_mx (f i) (f j)) ((ns_swap (hf i) (hf j)).2) ?_
  refine ns_ast hx hb hK hP hD hS 0 0 rfl rfl (j := j) hj (by decide) dX2_minmax_70 (fun H locs hP hD hS => ?_)
  have hP : va_P D vwCl [(h0, .inl (d0, 64, .inl (upd (upd f i (ns_mn (f i) (f j))) j (ns_mx (f i) (f j)))))] H := hP
  have hD : va_D A [(h0, .inl (d0, 64, .inl (upd (upd f i (ns_mn (f i) (f j))) j (ns_mx (f i) (f j)))))] := hD
  have hP : va_P D vwCl [(h0, .inl (d0, 64, .inl (ns_cx f i j)))] H := hP
  have hD : va_D A [(h0, .inl (d0, 64, .inl (ns_cx f i j)))] := hD
  have hP9 := hP.sub (ws' := [(h0, .inl (d0, 64, .inl (ns_cx f i j)))]) [0] rfl
  have hD9 := hD.sub (ws' := [(h0, .inl (d0, 64, .inl (ns_cx f i j)))]) [0] (by decide) rfl
  exact W.vret hx hb hr (fun t ht hW => ⟨⟨(), rfl, trivial, by rw [ht]; exact hP9, va_K.moved hW.alike hK, hD9⟩, hS.F ht⟩) hS.2.2 dX2_minmax_71
set_option maxHeartbeats 4000000 in
set_option maxRecDepth 100000 in
/-- cut(v) -/
theorem met_cut (l : Launch) (D : va_G) (sz : Nat) (v : Int32) : Met l yX0_cut (ws_ yX0_cut cX0_cut 1 (some .int)) ({ frames := 0, cells := 0, slots := 0, locals := 0 }) (ns_Pre D sz [] [] [.int v]) (va_Qi (fun (r : Int32) (_ : Unit) => r = v &&& 1073741823) (ns_B D [] (va_A [] sz) []) (va_A [] sz)) 0 0 (va_A [] sz) := by
  refine Met.ofW (cc := cX0_cut) (maxL := 1) (ret := (some .int)) (by decide) rfl ?_
  intro p e s m args below meth c s₁ B hml hv
  obtain ⟨rfl, hsz, hP, hK, hD0⟩ := hv
  have hx := B.exec
  have hb := B.bytes
  have hr := B.returns
  have hts := atoms_spec (ws := ws_ yX0_cut cX0_cut 1 (some .int)) B.pre
  have hts : ∀ w ∈ lw_all, w.before _ s = true := fun w h => hts w (List.mem_cons_of_mem _ h)
  have hown : s.vm.findClass RX0 = some m.cls := findClass_of_methodNamed B.named
  have hlocks := B.notSynchronized
  subst hsz
  have hD := hD0.self (sz := s.heap.size)
  generalize hAe : va_A [] s.heap.size = A at hD ⊢
  have hA : ∀ q : Nat, s.heap.size ≤ q → A q := fun q h => by rw [← hAe]; exact Or.inr h
  have hS : va_S A s.heap s.heap [] := va_S.rf
  have hP : va_P D vwCl [] s.heap := hP
  have hl := lv_entry ([.int v]) (n := 1) (Nat.le_of_ble_eq_true rfl)
  rw [lg_entry_eq]
  generalize (lg_sl ([.int v]) ++ List.replicate (1 - (lg_sl ([.int v])).length) Slot.unset).toArray = ls at hl ⊢
  have hl : lv_has ls 1 [(0, .int v)] := hl
  refine lv_iload_n hx hb dX0_cut_0 rfl (lv_at hl 0 rfl) ?_
  refine lv_ldc (v := 1073741823) hx hb hown (hts _ q50) dX0_cut_1 ?_
  refine lv_iand hx hb dX0_cut_3 ?_
  have hP9 := hP.sub (ws' := []) [] rfl
  have hD9 := hD.sub (ws' := []) [] (by decide) rfl
  exact W.iret (v := (v &&& 1073741823)) hx hb hr (fun t ht hW => ⟨⟨(v &&& 1073741823), (), rfl, rfl, by rw [ht]; exact hP9, va_K.moved hW.alike hK, hD9⟩, hS.F ht⟩) hS.2.2 dX0_cut_4
set_option maxHeartbeats 4000000 in
set_option maxRecDepth 100000 in
/-- cell(s, k): the script at k, or 0 -/
theorem met_cell (l : Launch) (D : va_G) (sz : Nat) (b L : Nat) (xs : Nat → Int32) (k : Nat) (hL : L ≤ 96) (hk : k < 2 ^ 31) : Met l yX0_cell (ws_ yX0_cell cX0_cell 2 (some .int)) ({ frames := 0, cells := 0, slots := 0, locals := 0 }) (ns_PX D sz b L xs k) (va_Qi (fun (r : Int32) (_ : Unit) => r = if k < L then xs k else 0) (ns_B D [] (va_A [] sz) []) (va_A [] sz)) 0 0 (va_A [] sz) := by
  refine Met.ofW (cc := cX0_cell) (maxL := 2) (ret := (some .int)) (by decide) rfl ?_
  intro p e s m args below meth c s₁ B hml hv
  obtain ⟨rfl, hsz, hP, hK, hD0, hX⟩ := hv
  have hx := B.exec
  have hb := B.bytes
  have hr := B.returns
  have hts := atoms_spec (ws := ws_ yX0_cell cX0_cell 2 (some .int)) B.pre
  have hts : ∀ w ∈ lw_all, w.before _ s = true := fun w h => hts w (List.mem_cons_of_mem _ h)
  have hown : s.vm.findClass RX0 = some m.cls := findClass_of_methodNamed B.named
  have hlocks := B.notSynchronized
  subst hsz
  have hD := hD0.self (sz := s.heap.size)
  generalize hAe : va_A [] s.heap.size = A at hD ⊢
  have hA : ∀ q : Nat, s.heap.size ≤ q → A q := fun q h => by rw [← hAe]; exact Or.inr h
  have hbl : b < s.heap.size := by obtain ⟨scr, h1, -⟩ := hX; exact (Array.getElem?_eq_some_iff.mp h1).1
  have hbA : ¬ A b := by
    rw [← hAe]
    rintro (⟨k9, e9, h9⟩ | h9)
    · simp at h9
    · exact absurd hbl (Nat.not_lt.mpr h9)
  have hS : va_S A s.heap s.heap [] := va_S.rf
  have hP : va_P D vwCl [] s.heap := hP
  have hl := lv_entry ([.ref b, .int (nI k)]) (n := 2) (Nat.le_of_ble_eq_true rfl)
  rw [lg_entry_eq]
  generalize (lg_sl ([.ref b, .int (nI k)]) ++ List.replicate (2 - (lg_sl ([.ref b, .int (nI k)])).length) Slot.unset).toArray = ls at hl ⊢
  have hl : lv_has ls 2 [(0, .ref b), (1, .int (nI k))] := hl
  refine lv_iload_n hx hb dX0_cell_0 rfl (lv_at hl 1 rfl) ?_
  refine lv_aload_n hx hb dX0_cell_1 rfl (lv_at hl 0 rfl) ?_
  refine va_slen hx hb hX hbl hbA hS dX0_cell_2 ?_
  refine ns_as (nI L) rfl ?_
  refine lv_icmp_ge (tgt := 12) hx hb dX0_cell_3 (by decide) (fun c_1 => ?_) (fun c_1 => ?_)
  · have hlt : ¬ k < L := fun q => nI_ge q (by omega) c_1
    refine lv_iconst (v := 0) hx hb dX0_cell_12 (by decide +kernel) ?_
    have hP9 := hP.sub (ws' := []) [] rfl
    have hD9 := hD.sub (ws' := []) [] (by decide) rfl
    exact W.iret (v := 0) hx hb hr (fun t ht hW => ⟨⟨0, (), rfl, (if_neg hlt).symm, by rw [ht]; exact hP9, va_K.moved hW.alike hK, hD9⟩, hS.F ht⟩) hS.2.2 dX0_cell_13
  · have hlt : k < L := by
      rcases Nat.lt_or_ge k L with q | q
      · exact q
      · exact absurd (nI_le q hk) c_1
    refine lv_aload_n hx hb dX0_cell_6 rfl (lv_at hl 0 rfl) ?_
    refine lv_iload_n hx hb dX0_cell_7 rfl (lv_at hl 1 rfl) ?_
    refine va_sld hx hb hX hbl hbA hS (vp_in_nI hlt (by omega)) dX0_cell_8 ?_
    refine ns_as (xs k) (by rw [nI_clamp hk]) ?_
    refine lv_goto (tgt := 13) hx hb dX0_cell_9 (by decide) ?_
    have hP9 := hP.sub (ws' := []) [] rfl
    have hD9 := hD.sub (ws' := []) [] (by decide) rfl
    exact W.iret (v := (xs k)) hx hb hr (fun t ht hW => ⟨⟨(xs k), (), rfl, (if_pos hlt).symm, by rw [ht]; exact hP9, va_K.moved hW.alike hK, hD9⟩, hS.F ht⟩) hS.2.2 dX0_cell_13
set_option maxHeartbeats 4000000 in
set_option maxRecDepth 100000 in
/-- set(x, v) -/
theorem met_set (l : Launch) (D : va_G) (sz : Nat) (h0 h1 : Nat) (d0 : ClassId) (n : Int32) (f : Nat → Int32) (x v : Int32) : Met l yX1_set (ws_ yX1_set cX1_set 3 none) ({ frames := 0, cells := 0, slots := 0, locals := 0 }) (ns_Pre D sz [(h0, .inr (0, [.ref h1, .int n])), (h1, .inl (d0, 64, .inl f))] [(d0, .int)] [.ref h0, .int x, .int v]) (va_Qv (fun _ : Unit => True) (ns_B D [(d0, .int)] (va_A [(h0, .inr (0, [.ref h1, .int n])), (h1, .inl (d0, 64, .inl f))] sz) [(h0, .inr (0, [.ref h1, .int n])), (h1, .inl (d0, 64, .inl (upd f (ns_at x) (v &&& 1073741823))))]) (va_A [(h0, .inr (0, [.ref h1, .int n])), (h1, .inl (d0, 64, .inl f))] sz)) 0 0 (va_A [(h0, .inr (0, [.ref h1, .int n])), (h1, .inl (d0, 64, .inl f))] sz) := by
  refine Met.ofW (cc := cX1_set) (maxL := 3) (ret := none) (by decide) rfl ?_
  intro p e s m args below meth c s₁ B hml hv
  obtain ⟨rfl, hsz, hP, hK, hD0⟩ := hv
  have hx := B.exec
  have hb := B.bytes
  have hr := B.returns
  have hts := atoms_spec (ws := ws_ yX1_set cX1_set 3 none) B.pre
  have hts : ∀ w ∈ lw_all, w.before _ s = true := fun w h => hts w (List.mem_cons_of_mem _ h)
  have hown : s.vm.findClass RX1 = some m.cls := findClass_of_methodNamed B.named
  have hlocks := B.notSynchronized
  subst hsz
  have hD := hD0.self (sz := s.heap.size)
  generalize hAe : va_A [(h0, .inr (0, [.ref h1, .int n])), (h1, .inl (d0, 64, .inl f))] s.heap.size = A at hD ⊢
  have hA : ∀ q : Nat, s.heap.size ≤ q → A q := fun q h => by rw [← hAe]; exact Or.inr h
  have hS : va_S A s.heap s.heap [] := va_S.rf
  have hP : va_P D vwCl [(h0, .inr (0, [.ref h1, .int n])), (h1, .inl (d0, 64, .inl f))] s.heap := hP
  have hl := lv_entry ([.ref h0, .int x, .int v]) (n := 3) (Nat.le_of_ble_eq_true rfl)
  rw [lg_entry_eq]
  generalize (lg_sl ([.ref h0, .int x, .int v]) ++ List.replicate (3 - (lg_sl ([.ref h0, .int x, .int v])).length) Slot.unset).toArray = ls at hl ⊢
  have hl : lv_has ls 3 [(0, .ref h0), (1, .int x), (2, .int v)] := hl
  refine lv_aload_n hx hb dX1_set_0 rfl (lv_at hl 0 rfl) ?_
  refine va_get (D := D) (ci := 0) (v := .ref h1) (C := RX1) (T := TX1) (N := 2) hx hb hts in_X1 hown hK hP 0 rfl rfl 0 (by decide) (hts _ q11) (fun _ h9 => h9) rfl dX1_set_1 ?_
  refine lv_iload_n hx hb dX1_set_4 rfl (lv_at hl 1 rfl) ?_
  refine lv_bipush (v := nI 63) hx hb dX1_set_5 (by decide +kernel) ?_
  refine lv_iand hx hb dX1_set_7 ?_
  refine ns_as (nI (ns_at x)) (ns_at_eq x) ?_
  refine lv_iload_n hx hb dX1_set_8 rfl (lv_at hl 2 rfl) ?_
  refine lv_ldc (v := 1073741823) hx hb hown (hts _ q23) dX1_set_9 ?_
  refine lv_iand hx hb dX1_set_11 ?_
  refine ns_ast hx hb hK hP hD hS 1 0 rfl rfl (j := (ns_at x)) (ns_at_lt x) (by decide) dX1_set_12 (fun H locs hP hD hS => ?_)
  have hP : va_P D vwCl [(h0, .inr (0, [.ref h1, .int n])), (h1, .inl (d0, 64, .inl (upd f (ns_at x) (v &&& 1073741823))))] H := hP
  have hD : va_D A [(h0, .inr (0, [.ref h1, .int n])), (h1, .inl (d0, 64, .inl (upd f (ns_at x) (v &&& 1073741823))))] := hD
  have hP9 := hP.sub (ws' := [(h0, .inr (0, [.ref h1, .int n])), (h1, .inl (d0, 64, .inl (upd f (ns_at x) (v &&& 1073741823))))]) [0, 1] rfl
  have hD9 := hD.sub (ws' := [(h0, .inr (0, [.ref h1, .int n])), (h1, .inl (d0, 64, .inl (upd f (ns_at x) (v &&& 1073741823))))]) [0, 1] (by decide) rfl
  exact W.vret hx hb hr (fun t ht hW => ⟨⟨(), rfl, trivial, by rw [ht]; exact hP9, va_K.moved hW.alike hK, hD9⟩, hS.F ht⟩) hS.2.2 dX1_set_13
set_option maxHeartbeats 4000000 in
set_option maxRecDepth 100000 in
/-- length(b): the length asked for -/
theorem met_length (l : Launch) (D : va_G) (sz : Nat) (h0 h1 : Nat) (d0 : ClassId) (n : Int32) (f : Nat → Int32) (b : Int32) : Met l yX1_length (ws_ yX1_length cX1_length 2 none) ({ frames := 0, cells := 0, slots := 0, locals := 0 }) (ns_Pre D sz [(h0, .inr (0, [.ref h1, .int n])), (h1, .inl (d0, 64, .inl f))] [(d0, .int)] [.ref h0, .int b]) (va_Qv (fun _ : Unit => True) (ns_B D [(d0, .int)] (va_A [(h0, .inr (0, [.ref h1, .int n])), (h1, .inl (d0, 64, .inl f))] sz) [(h0, .inr (0, [.ref h1, .int (nI (ns_len b))])), (h1, .inl (d0, 64, .inl f))]) (va_A [(h0, .inr (0, [.ref h1, .int n])), (h1, .inl (d0, 64, .inl f))] sz)) 0 0 (va_A [(h0, .inr (0, [.ref h1, .int n])), (h1, .inl (d0, 64, .inl f))] sz) := by
  refine Met.ofW (cc := cX1_length) (maxL := 2) (ret := none) (by decide) rfl ?_
  intro p e s m args below meth c s₁ B hml hv
  obtain ⟨rfl, hsz, hP, hK, hD0⟩ := hv
  have hx := B.exec
  have hb := B.bytes
  have hr := B.returns
  have hts := atoms_spec (ws := ws_ yX1_length cX1_length 2 none) B.pre
  have hts : ∀ w ∈ lw_all, w.before _ s = true := fun w h => hts w (List.mem_cons_of_mem _ h)
  have hown : s.vm.findClass RX1 = some m.cls := findClass_of_methodNamed B.named
  have hlocks := B.notSynchronized
  subst hsz
  have hD := hD0.self (sz := s.heap.size)
  generalize hAe : va_A [(h0, .inr (0, [.ref h1, .int n])), (h1, .inl (d0, 64, .inl f))] s.heap.size = A at hD ⊢
  have hA : ∀ q : Nat, s.heap.size ≤ q → A q := fun q h => by rw [← hAe]; exact Or.inr h
  have hS : va_S A s.heap s.heap [] := va_S.rf
  have hP : va_P D vwCl [(h0, .inr (0, [.ref h1, .int n])), (h1, .inl (d0, 64, .inl f))] s.heap := hP
  have hl := lv_entry ([.ref h0, .int b]) (n := 2) (Nat.le_of_ble_eq_true rfl)
  rw [lg_entry_eq]
  generalize (lg_sl ([.ref h0, .int b]) ++ List.replicate (2 - (lg_sl ([.ref h0, .int b])).length) Slot.unset).toArray = ls at hl ⊢
  have hl : lv_has ls 2 [(0, .ref h0), (1, .int b)] := hl
  refine lv_aload_n hx hb dX1_length_0 rfl (lv_at hl 0 rfl) ?_
  refine lv_iconst (v := nI 2) hx hb dX1_length_1 (by decide +kernel) ?_
  refine lv_iload_n hx hb dX1_length_2 rfl (lv_at hl 1 rfl) ?_
  refine lv_ldc (v := 2147483647) hx hb hown (hts _ q32) dX1_length_3 ?_
  refine lv_iand hx hb dX1_length_5 ?_
  refine lv_bipush (v := nI 63) hx hb dX1_length_6 (by decide +kernel) ?_
  refine lv_irem hx hb dX1_length_8 (by decide +kernel) ?_
  refine lv_iadd hx hb dX1_length_9 ?_
  refine ns_as (nI (ns_len b)) (ns_len_eq b) ?_
  refine va_put (D := D) (ci := 0) (v := .int (nI (ns_len b))) (ty := .int) (C := RX1) (T := TX1) (N := 2) hx hb hts in_X1 tyX1 tyX1_ok nmX1 hown hK hP hD hS 0 rfl rfl 1 (by decide) (hts _ q12) (fun _ h9 => h9) rfl (by decide +kernel) rfl rfl (Nat.le_of_ble_eq_true rfl) dX1_length_10 (fun H locs hP hD hS => ?_)
  have hP : va_P D vwCl [(h0, .inr (0, [.ref h1, .int (nI (ns_len b))])), (h1, .inl (d0, 64, .inl f))] H := hP
  have hD : va_D A [(h0, .inr (0, [.ref h1, .int (nI (ns_len b))])), (h1, .inl (d0, 64, .inl f))] := hD
  have hP9 := hP.sub (ws' := [(h0, .inr (0, [.ref h1, .int (nI (ns_len b))])), (h1, .inl (d0, 64, .inl f))]) [0, 1] rfl
  have hD9 := hD.sub (ws' := [(h0, .inr (0, [.ref h1, .int (nI (ns_len b))])), (h1, .inl (d0, 64, .inl f))]) [0, 1] (by decide) rfl
  exact W.vret hx hb hr (fun t ht hW => ⟨⟨(), rfl, trivial, by rw [ht]; exact hP9, va_K.moved hW.alike hK, hD9⟩, hS.F ht⟩) hS.2.2 dX1_length_13
set_option maxHeartbeats 4000000 in
set_option maxRecDepth 100000 in
/-- get(x) -/
theorem met_get (l : Launch) (D : va_G) (sz : Nat) (h0 h1 : Nat) (d0 : ClassId) (n : Int32) (f : Nat → Int32) (x : Int32) : Met l yX1_get (ws_ yX1_get cX1_get 2 (some .int)) ({ frames := 0, cells := 0, slots := 0, locals := 0 }) (ns_Pre D sz [(h0, .inr (0, [.ref h1, .int n])), (h1, .inl (d0, 64, .inl f))] [(d0, .int)] [.ref h0, .int x]) (va_Qi (fun (r : Int32) (_ : Unit) => r = f (ns_at x)) (ns_B D [(d0, .int)] (va_A [(h0, .inr (0, [.ref h1, .int n])), (h1, .inl (d0, 64, .inl f))] sz) [(h0, .inr (0, [.ref h1, .int n])), (h1, .inl (d0, 64, .inl f))]) (va_A [(h0, .inr (0, [.ref h1, .int n])), (h1, .inl (d0, 64, .inl f))] sz)) 0 0 (va_A [(h0, .inr (0, [.ref h1, .int n])), (h1, .inl (d0, 64, .inl f))] sz) := by
  refine Met.ofW (cc := cX1_get) (maxL := 2) (ret := (some .int)) (by decide) rfl ?_
  intro p e s m args below meth c s₁ B hml hv
  obtain ⟨rfl, hsz, hP, hK, hD0⟩ := hv
  have hx := B.exec
  have hb := B.bytes
  have hr := B.returns
  have hts := atoms_spec (ws := ws_ yX1_get cX1_get 2 (some .int)) B.pre
  have hts : ∀ w ∈ lw_all, w.before _ s = true := fun w h => hts w (List.mem_cons_of_mem _ h)
  have hown : s.vm.findClass RX1 = some m.cls := findClass_of_methodNamed B.named
  have hlocks := B.notSynchronized
  subst hsz
  have hD := hD0.self (sz := s.heap.size)
  generalize hAe : va_A [(h0, .inr (0, [.ref h1, .int n])), (h1, .inl (d0, 64, .inl f))] s.heap.size = A at hD ⊢
  have hA : ∀ q : Nat, s.heap.size ≤ q → A q := fun q h => by rw [← hAe]; exact Or.inr h
  have hS : va_S A s.heap s.heap [] := va_S.rf
  have hP : va_P D vwCl [(h0, .inr (0, [.ref h1, .int n])), (h1, .inl (d0, 64, .inl f))] s.heap := hP
  have hl := lv_entry ([.ref h0, .int x]) (n := 2) (Nat.le_of_ble_eq_true rfl)
  rw [lg_entry_eq]
  generalize (lg_sl ([.ref h0, .int x]) ++ List.replicate (2 - (lg_sl ([.ref h0, .int x])).length) Slot.unset).toArray = ls at hl ⊢
  have hl : lv_has ls 2 [(0, .ref h0), (1, .int x)] := hl
  refine lv_aload_n hx hb dX1_get_0 rfl (lv_at hl 0 rfl) ?_
  refine va_get (D := D) (ci := 0) (v := .ref h1) (C := RX1) (T := TX1) (N := 2) hx hb hts in_X1 hown hK hP 0 rfl rfl 0 (by decide) (hts _ q11) (fun _ h9 => h9) rfl dX1_get_1 ?_
  refine lv_iload_n hx hb dX1_get_4 rfl (lv_at hl 1 rfl) ?_
  refine lv_bipush (v := nI 63) hx hb dX1_get_5 (by decide +kernel) ?_
  refine lv_iand hx hb dX1_get_7 ?_
  refine ns_as (nI (ns_at x)) (ns_at_eq x) ?_
  refine ns_ald hx hb hK hP 1 0 rfl rfl (j := (ns_at x)) (ns_at_lt x) (by decide) dX1_get_8 ?_
  have hP9 := hP.sub (ws' := [(h0, .inr (0, [.ref h1, .int n])), (h1, .inl (d0, 64, .inl f))]) [0, 1] rfl
  have hD9 := hD.sub (ws' := [(h0, .inr (0, [.ref h1, .int n])), (h1, .inl (d0, 64, .inl f))]) [0, 1] (by decide) rfl
  exact W.iret (v := (f (ns_at x))) hx hb hr (fun t ht hW => ⟨⟨(f (ns_at x)), (), rfl, rfl, by rw [ht]; exact hP9, va_K.moved hW.alike hK, hD9⟩, hS.F ht⟩) hS.2.2 dX1_get_9
set_option maxHeartbeats 4000000 in
set_option maxRecDepth 100000 in
/-- length() -/
theorem met_len (l : Launch) (D : va_G) (sz : Nat) (h0 h1 : Nat) (d0 : ClassId) (n : Int32) (f : Nat → Int32) : Met l yX1_length_2 (ws_ yX1_length_2 cX1_length_2 1 (some .int)) ({ frames := 0, cells := 0, slots := 0, locals := 0 }) (ns_Pre D sz [(h0, .inr (0, [.ref h1, .int n])), (h1, .inl (d0, 64, .inl f))] [(d0, .int)] [.ref h0]) (va_Qi (fun (r : Int32) (_ : Unit) => r = n) (ns_B D [(d0, .int)] (va_A [(h0, .inr (0, [.ref h1, .int n])), (h1, .inl (d0, 64, .inl f))] sz) [(h0, .inr (0, [.ref h1, .int n])), (h1, .inl (d0, 64, .inl f))]) (va_A [(h0, .inr (0, [.ref h1, .int n])), (h1, .inl (d0, 64, .inl f))] sz)) 0 0 (va_A [(h0, .inr (0, [.ref h1, .int n])), (h1, .inl (d0, 64, .inl f))] sz) := by
  refine Met.ofW (cc := cX1_length_2) (maxL := 1) (ret := (some .int)) (by decide) rfl ?_
  intro p e s m args below meth c s₁ B hml hv
  obtain ⟨rfl, hsz, hP, hK, hD0⟩ := hv
  have hx := B.exec
  have hb := B.bytes
  have hr := B.returns
  have hts := atoms_spec (ws := ws_ yX1_length_2 cX1_length_2 1 (some .int)) B.pre
  have hts : ∀ w ∈ lw_all, w.before _ s = true := fun w h => hts w (List.mem_cons_of_mem _ h)
  have hown : s.vm.findClass RX1 = some m.cls := findClass_of_methodNamed B.named
  have hlocks := B.notSynchronized
  subst hsz
  have hD := hD0.self (sz := s.heap.size)
  generalize hAe : va_A [(h0, .inr (0, [.ref h1, .int n])), (h1, .inl (d0, 64, .inl f))] s.heap.size = A at hD ⊢
  have hA : ∀ q : Nat, s.heap.size ≤ q → A q := fun q h => by rw [← hAe]; exact Or.inr h
  have hS : va_S A s.heap s.heap [] := va_S.rf
  have hP : va_P D vwCl [(h0, .inr (0, [.ref h1, .int n])), (h1, .inl (d0, 64, .inl f))] s.heap := hP
  have hl := lv_entry ([.ref h0]) (n := 1) (Nat.le_of_ble_eq_true rfl)
  rw [lg_entry_eq]
  generalize (lg_sl ([.ref h0]) ++ List.replicate (1 - (lg_sl ([.ref h0])).length) Slot.unset).toArray = ls at hl ⊢
  have hl : lv_has ls 1 [(0, .ref h0)] := hl
  refine lv_aload_n hx hb dX1_length_2_0 rfl (lv_at hl 0 rfl) ?_
  refine va_get (D := D) (ci := 0) (v := .int n) (C := RX1) (T := TX1) (N := 2) hx hb hts in_X1 hown hK hP 0 rfl rfl 1 (by decide) (hts _ q12) (fun _ h9 => h9) rfl dX1_length_2_1 ?_
  have hP9 := hP.sub (ws' := [(h0, .inr (0, [.ref h1, .int n])), (h1, .inl (d0, 64, .inl f))]) [0, 1] rfl
  have hD9 := hD.sub (ws' := [(h0, .inr (0, [.ref h1, .int n])), (h1, .inl (d0, 64, .inl f))]) [0, 1] (by decide) rfl
  exact W.iret (v := n) hx hb hr (fun t ht hW => ⟨⟨n, (), rfl, rfl, by rw [ht]; exact hP9, va_K.moved hW.alike hK, hD9⟩, hS.F ht⟩) hS.2.2 dX1_length_2_4
set_option maxHeartbeats 4000000 in
set_option maxRecDepth 100000 in
/-- the loop of fill -/
theorem lp_fill {p : Program} {l : Launch} {e : Env} {s : State} {m : MethodId} {args : Array Value} {below : List Frame} {meth : Method} {c : Code} {Q : State → Prop} {D : va_G} {A : Nat → Prop} {R : Room} {h0 h1 : Nat} {d0 : ClassId} {n : Int32} {f : Nat → Int32} {x y : Int32} (S : CallFix p m c cX1_fill 4 s args lw_all RX1) (hA : ∀ q : Nat, s.heap.size ≤ q → A q) (hK : va_K D vwCl [(d0, .int)] s) (K : ∀ (H : Heap) (locs : List Loc) (ls : Array Slot), va_P D vwCl [(h0, .inr (0, [.ref h1, .int n])), (h1, .inl (d0, 64, .inl (ns_fil f x y 64)))] H → va_D A [(h0, .inr (0, [.ref h1, .int n])), (h1, .inl (d0, 64, .inl (ns_fil f x y 64)))] → va_S A s.heap H locs → lv_has ls 4 [(0, .ref h0), (1, .int x), (2, .int y)] → W p l e R s m args below meth c H locs 0 0 Q (F0 m 28 ls [])) :
    ∀ (cnt i : Nat), i + cnt = 64 → ∀ (H : Heap) (locs : List Loc) (ls : Array Slot), va_P D vwCl [(h0, .inr (0, [.ref h1, .int n])), (h1, .inl (d0, 64, .inl (ns_fil f x y i)))] H → va_D A [(h0, .inr (0, [.ref h1, .int n])), (h1, .inl (d0, 64, .inl (ns_fil f x y i)))] → va_S A s.heap H locs → lv_has ls 4 [(0, .ref h0), (1, .int x), (2, .int y), (3, .int (nI i))] → W p l e R s m args below meth c H locs 0 0 Q (F0 m 2 ls []) := by
  obtain ⟨hx, hb, hml, hown, hts⟩ := id S
  intro cnt
  induction cnt with
  | zero =>
    intro i hi H locs ls hP hD hS hl
    have hi : i = 64 := by omega
    subst hi
    refine lv_iload_n hx hb dX1_fill_2 rfl (lv_at hl 3 rfl) ?_
    refine lv_bipush (v := nI 64) hx hb dX1_fill_3 (by decide +kernel) ?_
    refine lv_icmp_ge (tgt := 28) hx hb dX1_fill_5 (by decide) (fun c_1 => ?_) (fun c_1 => ?_)
    · exact K H locs ls hP hD hS (lv_sub hl [0, 1, 2] rfl)
    · exact absurd (nI_le (Nat.le_refl 64) (by decide)) c_1
  | succ cnt ih =>
    intro i hi H locs ls hP hD hS hl
    have hlt : i < 64 := by omega
    refine lv_iload_n hx hb dX1_fill_2 rfl (lv_at hl 3 rfl) ?_
    refine lv_bipush (v := nI 64) hx hb dX1_fill_3 (by decide +kernel) ?_
    refine lv_icmp_ge (tgt := 28) hx hb dX1_fill_5 (by decide) (fun c_2 => ?_) (fun c_2 => ?_)
    · exact absurd c_2 (nI_ge hlt (by decide))
    · refine lv_aload_n hx hb dX1_fill_8 rfl (lv_at hl 0 rfl) ?_
      refine va_get (D := D) (ci := 0) (v := .ref h1) (C := RX1) (T := TX1) (N := 2) hx hb hts in_X1 hown hK hP 0 rfl rfl 0 (by decide) (hts _ q11) (fun _ h9 => h9) rfl dX1_fill_9 ?_
      refine lv_iload_n hx hb dX1_fill_12 rfl (lv_at hl 3 rfl) ?_
      refine lv_iload_n hx hb dX1_fill_13 rfl (lv_at hl 1 rfl) ?_
      refine lv_iload_n hx hb dX1_fill_14 rfl (lv_at hl 2 rfl) ?_
      refine lv_iload_n hx hb dX1_fill_15 rfl (lv_at hl 3 rfl) ?_
      refine lv_imul hx hb dX1_fill_16 ?_
      refine lv_iadd hx hb dX1_fill_17 ?_
      refine lv_ldc (v := 1073741823) hx hb hown (hts _ q23) dX1_fill_18 ?_
      refine lv_iand hx hb dX1_fill_20 ?_
      refine ns_ast hx hb hK hP hD hS 1 0 rfl rfl (j := i) hlt (by decide) dX1_fill_21 (fun H locs hP hD hS => ?_)
      have hP : va_P D vwCl [(h0, .inr (0, [.ref h1, .int n])), (h1, .inl (d0, 64, .inl (upd (ns_fil f x y i) i ((x + (y * (nI i))) &&& 1073741823))))] H := hP
      have hD : va_D A [(h0, .inr (0, [.ref h1, .int n])), (h1, .inl (d0, 64, .inl (upd (ns_fil f x y i) i ((x + (y * (nI i))) &&& 1073741823))))] := hD
      have hP : va_P D vwCl [(h0, .inr (0, [.ref h1, .int n])), (h1, .inl (d0, 64, .inl (ns_fil f x y (i + 1))))] H := by rw [ns_fil_s] at hP; exact hP
      have hD : va_D A [(h0, .inr (0, [.ref h1, .int n])), (h1, .inl (d0, 64, .inl (ns_fil f x y (i + 1))))] := by rw [ns_fil_s] at hD; exact hD
      refine lv_iinc (v := nI (i + 1)) (lv' := [(3, .int (nI (i + 1))), (0, .ref h0), (1, .int x), (2, .int y)]) hx hb dX1_fill_22 hl (k := 3) rfl (ns_inc i) (by decide) rfl (fun ls hl => ?_)
      refine lv_goto (tgt := 2) hx hb dX1_fill_25 (by decide) ?_
      exact ih (i + 1) (by omega) H locs ls hP hD hS (lv_sub hl [1, 2, 3, 0] rfl)
set_option maxHeartbeats 4000000 in
set_option maxRecDepth 100000 in
/-- fill(x, y) -/
theorem met_fill (l : Launch) (D : va_G) (sz : Nat) (h0 h1 : Nat) (d0 : ClassId) (n : Int32) (f : Nat → Int32) (x y : Int32) : Met l yX1_fill (ws_ yX1_fill cX1_fill 4 none) ({ frames := 0, cells := 0, slots := 0, locals := 0 }) (ns_Pre D sz [(h0, .inr (0, [.ref h1, .int n])), (h1, .inl (d0, 64, .inl f))] [(d0, .int)] [.ref h0, .int x, .int y]) (va_Qv (fun _ : Unit => True) (ns_B D [(d0, .int)] (va_A [(h0, .inr (0, [.ref h1, .int n])), (h1, .inl (d0, 64, .inl f))] sz) [(h0, .inr (0, [.ref h1, .int n])), (h1, .inl (d0, 64, .inl (ns_fil f x y 64)))]) (va_A [(h0, .inr (0, [.ref h1, .int n])), (h1, .inl (d0, 64, .inl f))] sz)) 0 0 (va_A [(h0, .inr (0, [.ref h1, .int n])), (h1, .inl (d0, 64, .inl f))] sz) := by
  refine Met.ofW (cc := cX1_fill) (maxL := 4) (ret := none) (by decide) rfl ?_
  intro p e s m args below meth c s₁ B hml hv
  obtain ⟨rfl, hsz, hP, hK, hD0⟩ := hv
  have hx := B.exec
  have hb := B.bytes
  have hr := B.returns
  have hts := atoms_spec (ws := ws_ yX1_fill cX1_fill 4 none) B.pre
  have hts : ∀ w ∈ lw_all, w.before _ s = true := fun w h => hts w (List.mem_cons_of_mem _ h)
  have hown : s.vm.findClass RX1 = some m.cls := findClass_of_methodNamed B.named
  have hlocks := B.notSynchronized
  subst hsz
  have hD := hD0.self (sz := s.heap.size)
  generalize hAe : va_A [(h0, .inr (0, [.ref h1, .int n])), (h1, .inl (d0, 64, .inl f))] s.heap.size = A at hD ⊢
  have hA : ∀ q : Nat, s.heap.size ≤ q → A q := fun q h => by rw [← hAe]; exact Or.inr h
  have hS : va_S A s.heap s.heap [] := va_S.rf
  have hP : va_P D vwCl [(h0, .inr (0, [.ref h1, .int n])), (h1, .inl (d0, 64, .inl f))] s.heap := hP
  have hl := lv_entry ([.ref h0, .int x, .int y]) (n := 4) (Nat.le_of_ble_eq_true rfl)
  rw [lg_entry_eq]
  generalize (lg_sl ([.ref h0, .int x, .int y]) ++ List.replicate (4 - (lg_sl ([.ref h0, .int x, .int y])).length) Slot.unset).toArray = ls at hl ⊢
  have hl : lv_has ls 4 [(0, .ref h0), (1, .int x), (2, .int y)] := hl
  refine lv_iconst (v := nI 0) hx hb dX1_fill_0 (by decide +kernel) ?_
  refine lv_istore_n (lv' := [(3, .int (nI 0)), (0, .ref h0), (1, .int x), (2, .int y)]) hx hb dX1_fill_1 rfl hl (by decide) rfl (fun ls hl => ?_)
  refine lp_fill (f := f) (x := x) (y := y) ⟨hx, hb, hml, hown, hts⟩ hA hK (fun H locs ls hP hD hS hl => ?_) 64 0 rfl s.heap [] ls (by rw [ns_fil_0]; exact hP) (by rw [ns_fil_0]; exact hD) hS (lv_sub hl [1, 2, 3, 0] rfl)
  have hP9 := hP.sub (ws' := [(h0, .inr (0, [.ref h1, .int n])), (h1, .inl (d0, 64, .inl (ns_fil f x y 64)))]) [0, 1] rfl
  have hD9 := hD.sub (ws' := [(h0, .inr (0, [.ref h1, .int n])), (h1, .inl (d0, 64, .inl (ns_fil f x y 64)))]) [0, 1] (by decide) rfl
  exact W.vret hx hb hr (fun t ht hW => ⟨⟨(), rfl, trivial, by rw [ht]; exact hP9, va_K.moved hW.alike hK, hD9⟩, hS.F ht⟩) hS.2.2 dX1_fill_28
set_option maxHeartbeats 4000000 in
set_option maxRecDepth 100000 in
/-- the loop of sum -/
theorem lp_sum {p : Program} {l : Launch} {e : Env} {s : State} {m : MethodId} {args : Array Value} {below : List Frame} {meth : Method} {c : Code} {Q : State → Prop} {D : va_G} {A : Nat → Prop} {R : Room} {h0 h1 : Nat} {d0 : ClassId} {n : Int32} {f : Nat → Int32} (S : CallFix p m c cX1_sum 4 s args lw_all RX1) (hA : ∀ q : Nat, s.heap.size ≤ q → A q) (hK : va_K D vwCl [(d0, .int)] s) (K : ∀ (H : Heap) (locs : List Loc) (ls : Array Slot), va_P D vwCl [(h0, .inr (0, [.ref h1, .int n])), (h1, .inl (d0, 64, .inl f))] H → va_D A [(h0, .inr (0, [.ref h1, .int n])), (h1, .inl (d0, 64, .inl f))] → va_S A s.heap H locs → lv_has ls 4 [(0, .ref h0), (1, .long (ns_sum f 64))] → W p l e R s m args below meth c H locs 0 0 Q (F0 m 30 ls [])) :
    ∀ (cnt i : Nat), i + cnt = 64 → ∀ (H : Heap) (locs : List Loc) (ls : Array Slot), va_P D vwCl [(h0, .inr (0, [.ref h1, .int n])), (h1, .inl (d0, 64, .inl f))] H → va_D A [(h0, .inr (0, [.ref h1, .int n])), (h1, .inl (d0, 64, .inl f))] → va_S A s.heap H locs → lv_has ls 4 [(0, .ref h0), (1, .long (ns_sum f i)), (3, .int (nI i))] → W p l e R s m args below meth c H locs 0 0 Q (F0 m 4 ls []) := by
  obtain ⟨hx, hb, hml, hown, hts⟩ := id S
  intro cnt
  induction cnt with
  | zero =>
    intro i hi H locs ls hP hD hS hl
    have hi : i = 64 := by omega
    subst hi
    refine lv_iload_n hx hb dX1_sum_4 rfl (lv_at hl 2 rfl) ?_
    refine lv_bipush (v := nI 64) hx hb dX1_sum_5 (by decide +kernel) ?_
    refine lv_icmp_ge (tgt := 30) hx hb dX1_sum_7 (by decide) (fun c_1 => ?_) (fun c_1 => ?_)
    · exact K H locs ls hP hD hS (lv_sub hl [0, 1] rfl)
    · exact absurd (nI_le (Nat.le_refl 64) (by decide)) c_1
  | succ cnt ih =>
    intro i hi H locs ls hP hD hS hl
    have hlt : i < 64 := by omega
    refine lv_iload_n hx hb dX1_sum_4 rfl (lv_at hl 2 rfl) ?_
    refine lv_bipush (v := nI 64) hx hb dX1_sum_5 (by decide +kernel) ?_
    refine lv_icmp_ge (tgt := 30) hx hb dX1_sum_7 (by decide) (fun c_2 => ?_) (fun c_2 => ?_)
    · exact absurd c_2 (nI_ge hlt (by decide))
    · refine lv_lload_n hx hb dX1_sum_10 rfl (lv_at hl 1 rfl) ?_
      refine lv_ldc2 (v := 31) hx hb hown (hts _ q71) dX1_sum_11 ?_
      refine lv_lmul hx hb dX1_sum_14 ?_
      refine lv_aload_n hx hb dX1_sum_15 rfl (lv_at hl 0 rfl) ?_
      refine va_get (D := D) (ci := 0) (v := .ref h1) (C := RX1) (T := TX1) (N := 2) hx hb hts in_X1 hown hK hP 0 rfl rfl 0 (by decide) (hts _ q11) (fun _ h9 => h9) rfl dX1_sum_16 ?_
      refine lv_iload_n hx hb dX1_sum_19 rfl (lv_at hl 2 rfl) ?_
      refine ns_ald hx hb hK hP 1 0 rfl rfl (j := i) hlt (by decide) dX1_sum_20 ?_
      refine lv_i2l (v := ((f i).toInt64)) hx hb dX1_sum_21 rfl ?_
      refine lv_ladd hx hb dX1_sum_22 ?_
      refine ns_asl (ns_sum f (i + 1)) rfl ?_
      refine lv_lstore_n (lv' := [(1, .long (ns_sum f (i + 1))), (0, .ref h0), (3, .int (nI i))]) hx hb dX1_sum_23 rfl hl (by decide) rfl (fun ls hl => ?_)
      refine lv_iinc (v := nI (i + 1)) (lv' := [(3, .int (nI (i + 1))), (1, .long (ns_sum f (i + 1))), (0, .ref h0)]) hx hb dX1_sum_24 hl (k := 2) rfl (ns_inc i) (by decide) rfl (fun ls hl => ?_)
      refine lv_goto (tgt := 4) hx hb dX1_sum_27 (by decide) ?_
      exact ih (i + 1) (by omega) H locs ls hP hD hS (lv_sub hl [2, 1, 0] rfl)
set_option maxHeartbeats 4000000 in
set_option maxRecDepth 100000 in
/-- sum() -/
theorem met_sum (l : Launch) (D : va_G) (sz : Nat) (h0 h1 : Nat) (d0 : ClassId) (n : Int32) (f : Nat → Int32) : Met l yX1_sum (ws_ yX1_sum cX1_sum 4 (some .long)) ({ frames := 0, cells := 0, slots := 0, locals := 0 }) (ns_Pre D sz [(h0, .inr (0, [.ref h1, .int n])), (h1, .inl (d0, 64, .inl f))] [(d0, .int)] [.ref h0]) (va_Ql (fun (r : Int64) (_ : Unit) => r = ns_sum f 64) (ns_B D [(d0, .int)] (va_A [(h0, .inr (0, [.ref h1, .int n])), (h1, .inl (d0, 64, .inl f))] sz) [(h0, .inr (0, [.ref h1, .int n])), (h1, .inl (d0, 64, .inl f))]) (va_A [(h0, .inr (0, [.ref h1, .int n])), (h1, .inl (d0, 64, .inl f))] sz)) 0 0 (va_A [(h0, .inr (0, [.ref h1, .int n])), (h1, .inl (d0, 64, .inl f))] sz) := by
  refine Met.ofW (cc := cX1_sum) (maxL := 4) (ret := (some .long)) (by decide) rfl ?_
  intro p e s m args below meth c s₁ B hml hv
  obtain ⟨rfl, hsz, hP, hK, hD0⟩ := hv
  have hx := B.exec
  have hb := B.bytes
  have hr := B.returns
  have hts := atoms_spec (ws := ws_ yX1_sum cX1_sum 4 (some .long)) B.pre
  have hts : ∀ w ∈ lw_all, w.before _ s = true := fun w h => hts w (List.mem_cons_of_mem _ h)
  have hown : s.vm.findClass RX1 = some m.cls := findClass_of_methodNamed B.named
  have hlocks := B.notSynchronized
  subst hsz
  have hD := hD0.self (sz := s.heap.size)
  generalize hAe : va_A [(h0, .inr (0, [.ref h1, .int n])), (h1, .inl (d0, 64, .inl f))] s.heap.size = A at hD ⊢
  have hA : ∀ q : Nat, s.heap.size ≤ q → A q := fun q h => by rw [← hAe]; exact Or.inr h
  have hS : va_S A s.heap s.heap [] := va_S.rf
  have hP : va_P D vwCl [(h0, .inr (0, [.ref h1, .int n])), (h1, .inl (d0, 64, .inl f))] s.heap := hP
  have hl := lv_entry ([.ref h0]) (n := 4) (Nat.le_of_ble_eq_true rfl)
  rw [lg_entry_eq]
  generalize (lg_sl ([.ref h0]) ++ List.replicate (4 - (lg_sl ([.ref h0])).length) Slot.unset).toArray = ls at hl ⊢
  have hl : lv_has ls 4 [(0, .ref h0)] := hl
  refine lv_lconst (v := 0) hx hb dX1_sum_0 (by decide +kernel) ?_
  refine ns_asl (ns_sum f 0) rfl ?_
  refine lv_lstore_n (lv' := [(1, .long (ns_sum f 0)), (0, .ref h0)]) hx hb dX1_sum_1 rfl hl (by decide) rfl (fun ls hl => ?_)
  refine lv_iconst (v := nI 0) hx hb dX1_sum_2 (by decide +kernel) ?_
  refine lv_istore_n (lv' := [(3, .int (nI 0)), (1, .long (ns_sum f 0)), (0, .ref h0)]) hx hb dX1_sum_3 rfl hl (by decide) rfl (fun ls hl => ?_)
  refine lp_sum (f := f) ⟨hx, hb, hml, hown, hts⟩ hA hK (fun H locs ls hP hD hS hl => ?_) 64 0 rfl s.heap [] ls hP hD hS (lv_sub hl [2, 1, 0] rfl)
  refine lv_lload_n hx hb dX1_sum_30 rfl (lv_at hl 1 rfl) ?_
  have hP9 := hP.sub (ws' := [(h0, .inr (0, [.ref h1, .int n])), (h1, .inl (d0, 64, .inl f))]) [0, 1] rfl
  have hD9 := hD.sub (ws' := [(h0, .inr (0, [.ref h1, .int n])), (h1, .inl (d0, 64, .inl f))]) [0, 1] (by decide) rfl
  exact W.lret (v := (ns_sum f 64)) hx hb hr (fun t ht hW => ⟨⟨(ns_sum f 64), (), rfl, rfl, by rw [ht]; exact hP9, va_K.moved hW.alike hK, hD9⟩, hS.F ht⟩) hS.2.2 dX1_sum_31
end
section
set_option maxHeartbeats 4000000 in
set_option maxRecDepth 100000 in
/-- the first pass of a stage -/
theorem lp_A {p : Program} {l : Launch} {e : Env} {s : State} {m : MethodId} {args : Array Value} {below : List Frame} {meth : Method} {c : Code} {Q : State → Prop} {D : va_G} {A : Nat → Prop} {h0 : Nat} {d0 : ClassId} {n u : Nat} {tp : Int32} {f : Nat → Int32} (S : CallFix p m c cX2_cryptoSort 6 s args lw_all RX2) (hA : ∀ q : Nat, s.heap.size ≤ q → A q) (hK : va_K D vwCl [(d0, .int)] s) (hn : n ≤ 64) (hu : u < 6) (hun : 2 ^ u < n) (hf : ns_bd f) (K : ∀ (H : Heap) (locs : List Loc) (ls : Array Slot), va_P D vwCl [(h0, .inl (d0, 64, .inl (ns_pp (2 ^ u) 0 (2 ^ u) f (n - 2 ^ u))))] H → va_D A [(h0, .inl (d0, 64, .inl (ns_pp (2 ^ u) 0 (2 ^ u) f (n - 2 ^ u))))] → va_S A s.heap H locs → lv_has ls 6 [(0, .ref h0), (1, .int (nI n)), (2, .int tp), (3, .int (nI (2 ^ u)))] → W p l e ({ frames := 1, cells := 0, slots := 0, locals := 26 } : Room) s m args below meth c H locs 0 0 Q (F0 m 62 ls [])) :
    ∀ (cnt i : Nat), i + cnt = n - 2 ^ u → ∀ (H : Heap) (locs : List Loc) (ls : Array Slot), va_P D vwCl [(h0, .inl (d0, 64, .inl (ns_pp (2 ^ u) 0 (2 ^ u) f i)))] H → va_D A [(h0, .inl (d0, 64, .inl (ns_pp (2 ^ u) 0 (2 ^ u) f i)))] → va_S A s.heap H locs → lv_has ls 6 [(0, .ref h0), (1, .int (nI n)), (2, .int tp), (3, .int (nI (2 ^ u))), (5, .int (nI i))] → W p l e ({ frames := 1, cells := 0, slots := 0, locals := 26 } : Room) s m args below meth c H locs 0 0 Q (F0 m 31 ls []) := by
  obtain ⟨hx, hb, hml, hown, hts⟩ := id S
  have hp : 0 < 2 ^ u := Nat.two_pow_pos u
  intro cnt
  induction cnt with
  | zero =>
    intro i hi H locs ls hP hD hS hl
    have hi : i = n - 2 ^ u := by omega
    subst hi
    refine lv_iload hx hb dX2_cryptoSort_31 (lv_at hl 4 rfl) ?_
    refine lv_iload_n hx hb dX2_cryptoSort_33 rfl (lv_at hl 1 rfl) ?_
    refine lv_iload_n hx hb dX2_cryptoSort_34 rfl (lv_at hl 3 rfl) ?_
    refine lv_isub hx hb dX2_cryptoSort_35 ?_
    refine ns_as (nI (n - 2 ^ u)) (pk_sub (by omega)) ?_
    refine lv_icmp_ge (tgt := 62) hx hb dX2_cryptoSort_36 (by decide) (fun c_1 => ?_) (fun c_1 => ?_)
    · exact K H locs ls hP hD hS (lv_sub hl [0, 1, 2, 3] rfl)
    · exact absurd (nI_le (Nat.le_refl _) (by omega)) c_1
  | succ cnt ih =>
    intro i hi H locs ls hP hD hS hl
    have hlt : i < n - 2 ^ u := by omega
    refine lv_iload hx hb dX2_cryptoSort_31 (lv_at hl 4 rfl) ?_
    refine lv_iload_n hx hb dX2_cryptoSort_33 rfl (lv_at hl 1 rfl) ?_
    refine lv_iload_n hx hb dX2_cryptoSort_34 rfl (lv_at hl 3 rfl) ?_
    refine lv_isub hx hb dX2_cryptoSort_35 ?_
    refine ns_as (nI (n - 2 ^ u)) (pk_sub (by omega)) ?_
    refine lv_icmp_ge (tgt := 62) hx hb dX2_cryptoSort_36 (by decide) (fun c_2 => ?_) (fun c_2 => ?_)
    · exact absurd c_2 (nI_ge hlt (by omega))
    · refine lv_iload hx hb dX2_cryptoSort_39 (lv_at hl 4 rfl) ?_
      refine lv_iload_n hx hb dX2_cryptoSort_41 rfl (lv_at hl 3 rfl) ?_
      refine lv_iand hx hb dX2_cryptoSort_42 ?_
      refine lv_if_ne (tgt := 56) hx hb dX2_cryptoSort_43 (by decide) (fun c_3 => ?_) (fun c_3 => ?_)
      · have hE : ¬ ns_E (2 ^ u) i = true := fun q => c_3 ((ns_and_E (by omega) (by omega)).mpr q)
        have hP : va_P D vwCl [(h0, .inl (d0, 64, .inl (ns_pp (2 ^ u) 0 (2 ^ u) f (i + 1))))] H := by rw [← ns_pp_f hE] at hP; exact hP
        have hD : va_D A [(h0, .inl (d0, 64, .inl (ns_pp (2 ^ u) 0 (2 ^ u) f (i + 1))))] := by rw [← ns_pp_f hE] at hD; exact hD
        refine lv_iinc (v := nI (i + 1)) (lv' := [(5, .int (nI (i + 1))), (0, .ref h0), (1, .int (nI n)), (2, .int tp), (3, .int (nI (2 ^ u)))]) hx hb dX2_cryptoSort_56 hl (k := 4) rfl (ns_inc i) (by decide) rfl (fun ls hl => ?_)
        refine lv_goto (tgt := 31) hx hb dX2_cryptoSort_59 (by decide) ?_
        exact ih (i + 1) (by omega) H locs ls hP hD hS (lv_sub hl [1, 2, 3, 4, 0] rfl)
      · have hE : ns_E (2 ^ u) i = true := (ns_and_E (by omega) (by omega)).mp c_3
        refine lv_aload_n hx hb dX2_cryptoSort_46 rfl (lv_at hl 0 rfl) ?_
        refine lv_iload hx hb dX2_cryptoSort_47 (lv_at hl 4 rfl) ?_
        refine lv_iload hx hb dX2_cryptoSort_49 (lv_at hl 4 rfl) ?_
        refine lv_iload_n hx hb dX2_cryptoSort_51 rfl (lv_at hl 3 rfl) ?_
        refine lv_iadd hx hb dX2_cryptoSort_52 ?_
        refine ns_as (nI (i + 2 ^ u)) (nI_add i (2 ^ u)) ?_
        have hPc := hP.sub (ws' := [(h0, .inl (d0, 64, .inl (ns_pp (2 ^ u) 0 (2 ^ u) f i)))]) [0] rfl
        have hDc := hD.sub (ws' := [(h0, .inl (d0, 64, .inl (ns_pp (2 ^ u) 0 (2 ^ u) f i)))]) [0] (by decide) rfl
        have hKc := hK.sub (tys' := [(d0, .int)]) [0] rfl
        have hFc := va_free (wc := [(h0, .inl (d0, 64, .inl (ns_pp (2 ^ u) 0 (2 ^ u) f i)))]) hD hS hA [0] rfl
        refine va_callv (va_runS (As := [.ref h0, .int (nI i), .int (nI (i + 2 ^ u))]) (rest := []) ⟨hx, hb, hml, hown, hts⟩ (met_minmax l D _ h0 d0 (ns_pp (2 ^ u) 0 (2 ^ u) f i) i (i + 2 ^ u) (by omega) (by omega) (by omega) (ns_bd_pp hf _ _ _ _)) (va_cwS 3 hts (lw_S q40 q41 q2 q42) rfl rfl rfl (by decide +kernel) ⟨Nat.le_of_ble_eq_true rfl, Nat.le_of_ble_eq_true rfl⟩) ⟨ns_fb, ns_pr hPc hKc hDc⟩ rfl rfl hl.1 rfl (lv_room (Nat.le_of_ble_eq_true rfl)) dX2_cryptoSort_53 ⟨Nat.le_of_ble_eq_true rfl, Nat.le_of_ble_eq_true rfl⟩) hS (fun q _ h => hFc q h) hFc (fun ua ta H1 locs ht hvm hw hB hz1 hk1 hS => ?_)
        obtain ⟨hP1, hK1, hD1⟩ := hB
        rw [ht] at hP1
        obtain ⟨hP, hD⟩ := va_join (wr := []) (w1 := [(h0, .inl (d0, 64, .inl (ns_cx (ns_pp (2 ^ u) 0 (2 ^ u) f i) i (i + 2 ^ u))))]) hP hD [0] [] rfl rfl (by decide) (by decide) hk1 hFc hP1 hD1
        generalize H1 = H at hP hS ⊢
        have hP := hP.sub (ws' := [(h0, .inl (d0, 64, .inl (ns_cx (ns_pp (2 ^ u) 0 (2 ^ u) f i) i (i + 2 ^ u))))]) [0] rfl
        have hD := hD.sub (ws' := [(h0, .inl (d0, 64, .inl (ns_cx (ns_pp (2 ^ u) 0 (2 ^ u) f i) i (i + 2 ^ u))))]) [0] (by decide) rfl
        have e9 : ns_cx (ns_pp (2 ^ u) 0 (2 ^ u) f i) i (i + 2 ^ u) = (ns_pp (2 ^ u) 0 (2 ^ u) f (i + 1)) := (ns_pp_t hE).symm
        have hP : va_P D vwCl [(h0, .inl (d0, 64, .inl (ns_pp (2 ^ u) 0 (2 ^ u) f (i + 1))))] H := by rw [e9] at hP; exact hP
        have hD : va_D A [(h0, .inl (d0, 64, .inl (ns_pp (2 ^ u) 0 (2 ^ u) f (i + 1))))] := by rw [e9] at hD; exact hD
        refine lv_iinc (v := nI (i + 1)) (lv' := [(5, .int (nI (i + 1))), (0, .ref h0), (1, .int (nI n)), (2, .int tp), (3, .int (nI (2 ^ u)))]) hx hb dX2_cryptoSort_56 hl (k := 4) rfl (ns_inc i) (by decide) rfl (fun ls hl => ?_)
        refine lv_goto (tgt := 31) hx hb dX2_cryptoSort_59 (by decide) ?_
        exact ih (i + 1) (by omega) H locs ls hP hD hS (lv_sub hl [1, 2, 3, 4, 0] rfl)
set_option maxHeartbeats 4000000 in
set_option maxRecDepth 100000 in
/-- a later pass -/
theorem lp_B {p : Program} {l : Launch} {e : Env} {s : State} {m : MethodId} {args : Array Value} {below : List Frame} {meth : Method} {c : Code} {Q : State → Prop} {D : va_G} {A : Nat → Prop} {h0 : Nat} {d0 : ClassId} {n u v : Nat} {tp : Int32} {f : Nat → Int32} (S : CallFix p m c cX2_cryptoSort 6 s args lw_all RX2) (hA : ∀ q : Nat, s.heap.size ≤ q → A q) (hK : va_K D vwCl [(d0, .int)] s) (hn : n ≤ 64) (hu : u < v) (hv : v < 6) (hun : 2 ^ v < n) (hf : ns_bd f) (K : ∀ (H : Heap) (locs : List Loc) (ls : Array Slot), va_P D vwCl [(h0, .inl (d0, 64, .inl (ns_pp (2 ^ u) (2 ^ u) (2 ^ v) f (n - 2 ^ v))))] H → va_D A [(h0, .inl (d0, 64, .inl (ns_pp (2 ^ u) (2 ^ u) (2 ^ v) f (n - 2 ^ v))))] → va_S A s.heap H locs → lv_has ls 6 [(0, .ref h0), (1, .int (nI n)), (2, .int tp), (3, .int (nI (2 ^ u))), (4, .int (nI (2 ^ v)))] → W p l e ({ frames := 1, cells := 0, slots := 0, locals := 26 } : Room) s m args below meth c H locs 0 0 Q (F0 m 109 ls [])) :
    ∀ (cnt i : Nat), i + cnt = n - 2 ^ v → ∀ (H : Heap) (locs : List Loc) (ls : Array Slot), va_P D vwCl [(h0, .inl (d0, 64, .inl (ns_pp (2 ^ u) (2 ^ u) (2 ^ v) f i)))] H → va_D A [(h0, .inl (d0, 64, .inl (ns_pp (2 ^ u) (2 ^ u) (2 ^ v) f i)))] → va_S A s.heap H locs → lv_has ls 6 [(0, .ref h0), (1, .int (nI n)), (2, .int tp), (3, .int (nI (2 ^ u))), (4, .int (nI (2 ^ v))), (5, .int (nI i))] → W p l e ({ frames := 1, cells := 0, slots := 0, locals := 26 } : Room) s m args below meth c H locs 0 0 Q (F0 m 74 ls []) := by
  obtain ⟨hx, hb, hml, hown, hts⟩ := id S
  have hp0 : 0 < 2 ^ u := Nat.two_pow_pos u
  have hp : 2 ^ u < 2 ^ v := Nat.pow_lt_pow_right (by decide) hu
  intro cnt
  induction cnt with
  | zero =>
    intro i hi H locs ls hP hD hS hl
    have hi : i = n - 2 ^ v := by omega
    subst hi
    refine lv_iload hx hb dX2_cryptoSort_74 (lv_at hl 5 rfl) ?_
    refine lv_iload_n hx hb dX2_cryptoSort_76 rfl (lv_at hl 1 rfl) ?_
    refine lv_iload hx hb dX2_cryptoSort_77 (lv_at hl 4 rfl) ?_
    refine lv_isub hx hb dX2_cryptoSort_79 ?_
    refine ns_as (nI (n - 2 ^ v)) (pk_sub (by omega)) ?_
    refine lv_icmp_ge (tgt := 109) hx hb dX2_cryptoSort_80 (by decide) (fun c_1 => ?_) (fun c_1 => ?_)
    · exact K H locs ls hP hD hS (lv_sub hl [0, 1, 2, 3, 4] rfl)
    · exact absurd (nI_le (Nat.le_refl _) (by omega)) c_1
  | succ cnt ih =>
    intro i hi H locs ls hP hD hS hl
    have hlt : i < n - 2 ^ v := by omega
    refine lv_iload hx hb dX2_cryptoSort_74 (lv_at hl 5 rfl) ?_
    refine lv_iload_n hx hb dX2_cryptoSort_76 rfl (lv_at hl 1 rfl) ?_
    refine lv_iload hx hb dX2_cryptoSort_77 (lv_at hl 4 rfl) ?_
    refine lv_isub hx hb dX2_cryptoSort_79 ?_
    refine ns_as (nI (n - 2 ^ v)) (pk_sub (by omega)) ?_
    refine lv_icmp_ge (tgt := 109) hx hb dX2_cryptoSort_80 (by decide) (fun c_2 => ?_) (fun c_2 => ?_)
    · exact absurd c_2 (nI_ge hlt (by omega))
    · refine lv_iload hx hb dX2_cryptoSort_83 (lv_at hl 5 rfl) ?_
      refine lv_iload_n hx hb dX2_cryptoSort_85 rfl (lv_at hl 3 rfl) ?_
      refine lv_iand hx hb dX2_cryptoSort_86 ?_
      refine lv_if_ne (tgt := 103) hx hb dX2_cryptoSort_87 (by decide) (fun c_3 => ?_) (fun c_3 => ?_)
      · have hE : ¬ ns_E (2 ^ u) i = true := fun q => c_3 ((ns_and_E (by omega) (by omega)).mpr q)
        have hP : va_P D vwCl [(h0, .inl (d0, 64, .inl (ns_pp (2 ^ u) (2 ^ u) (2 ^ v) f (i + 1))))] H := by rw [← ns_pp_f hE] at hP; exact hP
        have hD : va_D A [(h0, .inl (d0, 64, .inl (ns_pp (2 ^ u) (2 ^ u) (2 ^ v) f (i + 1))))] := by rw [← ns_pp_f hE] at hD; exact hD
        refine lv_iinc (v := nI (i + 1)) (lv' := [(5, .int (nI (i + 1))), (0, .ref h0), (1, .int (nI n)), (2, .int tp), (3, .int (nI (2 ^ u))), (4, .int (nI (2 ^ v)))]) hx hb dX2_cryptoSort_103 hl (k := 5) rfl (ns_inc i) (by decide) rfl (fun ls hl => ?_)
        refine lv_goto (tgt := 74) hx hb dX2_cryptoSort_106 (by decide) ?_
        exact ih (i + 1) (by omega) H locs ls hP hD hS (lv_sub hl [1, 2, 3, 4, 5, 0] rfl)
      · have hE : ns_E (2 ^ u) i = true := (ns_and_E (by omega) (by omega)).mp c_3
        refine lv_aload_n hx hb dX2_cryptoSort_90 rfl (lv_at hl 0 rfl) ?_
        refine lv_iload hx hb dX2_cryptoSort_91 (lv_at hl 5 rfl) ?_
        refine lv_iload_n hx hb dX2_cryptoSort_93 rfl (lv_at hl 3 rfl) ?_
        refine lv_iadd hx hb dX2_cryptoSort_94 ?_
        refine ns_as (nI (i + 2 ^ u)) (nI_add i (2 ^ u)) ?_
        refine lv_iload hx hb dX2_cryptoSort_95 (lv_at hl 5 rfl) ?_
        refine lv_iload hx hb dX2_cryptoSort_97 (lv_at hl 4 rfl) ?_
        refine lv_iadd hx hb dX2_cryptoSort_99 ?_
        refine ns_as (nI (i + 2 ^ v)) (nI_add i (2 ^ v)) ?_
        have hPc := hP.sub (ws' := [(h0, .inl (d0, 64, .inl (ns_pp (2 ^ u) (2 ^ u) (2 ^ v) f i)))]) [0] rfl
        have hDc := hD.sub (ws' := [(h0, .inl (d0, 64, .inl (ns_pp (2 ^ u) (2 ^ u) (2 ^ v) f i)))]) [0] (by decide) rfl
        have hKc := hK.sub (tys' := [(d0, .int)]) [0] rfl
        have hFc := va_free (wc := [(h0, .inl (d0, 64, .inl (ns_pp (2 ^ u) (2 ^ u) (2 ^ v) f i)))]) hD hS hA [0] rfl
        refine va_callv (va_runS (As := [.ref h0, .int (nI (i + 2 ^ u)), .int (nI (i + 2 ^ v))]) (rest := []) ⟨hx, hb, hml, hown, hts⟩ (met_minmax l D _ h0 d0 (ns_pp (2 ^ u) (2 ^ u) (2 ^ v) f i) (i + 2 ^ u) (i + 2 ^ v) (by omega) (by omega) (by omega) (ns_bd_pp hf _ _ _ _)) (va_cwS 3 hts (lw_S q40 q41 q2 q42) rfl rfl rfl (by decide +kernel) ⟨Nat.le_of_ble_eq_true rfl, Nat.le_of_ble_eq_true rfl⟩) ⟨ns_fb, ns_pr hPc hKc hDc⟩ rfl rfl hl.1 rfl (lv_room (Nat.le_of_ble_eq_true rfl)) dX2_cryptoSort_100 ⟨Nat.le_of_ble_eq_true rfl, Nat.le_of_ble_eq_true rfl⟩) hS (fun q _ h => hFc q h) hFc (fun ua ta H1 locs ht hvm hw hB hz1 hk1 hS => ?_)
        obtain ⟨hP1, hK1, hD1⟩ := hB
        rw [ht] at hP1
        obtain ⟨hP, hD⟩ := va_join (wr := []) (w1 := [(h0, .inl (d0, 64, .inl (ns_cx (ns_pp (2 ^ u) (2 ^ u) (2 ^ v) f i) (i + 2 ^ u) (i + 2 ^ v))))]) hP hD [0] [] rfl rfl (by decide) (by decide) hk1 hFc hP1 hD1
        generalize H1 = H at hP hS ⊢
        have hP := hP.sub (ws' := [(h0, .inl (d0, 64, .inl (ns_cx (ns_pp (2 ^ u) (2 ^ u) (2 ^ v) f i) (i + 2 ^ u) (i + 2 ^ v))))]) [0] rfl
        have hD := hD.sub (ws' := [(h0, .inl (d0, 64, .inl (ns_cx (ns_pp (2 ^ u) (2 ^ u) (2 ^ v) f i) (i + 2 ^ u) (i + 2 ^ v))))]) [0] (by decide) rfl
        have e9 : ns_cx (ns_pp (2 ^ u) (2 ^ u) (2 ^ v) f i) (i + 2 ^ u) (i + 2 ^ v) = (ns_pp (2 ^ u) (2 ^ u) (2 ^ v) f (i + 1)) := (ns_pp_t hE).symm
        have hP : va_P D vwCl [(h0, .inl (d0, 64, .inl (ns_pp (2 ^ u) (2 ^ u) (2 ^ v) f (i + 1))))] H := by rw [e9] at hP; exact hP
        have hD : va_D A [(h0, .inl (d0, 64, .inl (ns_pp (2 ^ u) (2 ^ u) (2 ^ v) f (i + 1))))] := by rw [e9] at hD; exact hD
        refine lv_iinc (v := nI (i + 1)) (lv' := [(5, .int (nI (i + 1))), (0, .ref h0), (1, .int (nI n)), (2, .int tp), (3, .int (nI (2 ^ u))), (4, .int (nI (2 ^ v)))]) hx hb dX2_cryptoSort_103 hl (k := 5) rfl (ns_inc i) (by decide) rfl (fun ls hl => ?_)
        refine lv_goto (tgt := 74) hx hb dX2_cryptoSort_106 (by decide) ?_
        exact ih (i + 1) (by omega) H locs ls hP hD hS (lv_sub hl [1, 2, 3, 4, 5, 0] rfl)
set_option maxHeartbeats 4000000 in
set_option maxRecDepth 100000 in
/-- the later passes of a stage -/
theorem lp_C {p : Program} {l : Launch} {e : Env} {s : State} {m : MethodId} {args : Array Value} {below : List Frame} {meth : Method} {c : Code} {Q : State → Prop} {D : va_G} {A : Nat → Prop} {h0 : Nat} {d0 : ClassId} {n u : Nat} {tp : Int32} (S : CallFix p m c cX2_cryptoSort 6 s args lw_all RX2) (hA : ∀ q : Nat, s.heap.size ≤ q → A q) (hK : va_K D vwCl [(d0, .int)] s) (hn : n ≤ 64) (hu : u < 6) :
    ∀ (k : Nat) (f : Nat → Int32), u + k < 6 → 2 ^ (u + k) < n → ns_bd f → (∀ (H : Heap) (locs : List Loc) (ls : Array Slot), va_P D vwCl [(h0, .inl (d0, 64, .inl (ns_mid n (2 ^ u) k f)))] H → va_D A [(h0, .inl (d0, 64, .inl (ns_mid n (2 ^ u) k f)))] → va_S A s.heap H locs → lv_has ls 6 [(0, .ref h0), (1, .int (nI n)), (2, .int tp), (3, .int (nI (2 ^ u)))] → W p l e ({ frames := 1, cells := 0, slots := 0, locals := 26 } : Room) s m args below meth c H locs 0 0 Q (F0 m 118 ls [])) → ∀ (H : Heap) (locs : List Loc) (ls : Array Slot), va_P D vwCl [(h0, .inl (d0, 64, .inl f))] H → va_D A [(h0, .inl (d0, 64, .inl f))] → va_S A s.heap H locs → lv_has ls 6 [(0, .ref h0), (1, .int (nI n)), (2, .int tp), (3, .int (nI (2 ^ u))), (4, .int (nI (2 ^ u * 2 ^ k)))] → W p l e ({ frames := 1, cells := 0, slots := 0, locals := 26 } : Room) s m args below meth c H locs 0 0 Q (F0 m 65 ls []) := by
  obtain ⟨hx, hb, hml, hown, hts⟩ := id S
  have hp : 0 < 2 ^ u := Nat.two_pow_pos u
  have hp6 : 2 ^ u < 2 ^ 6 := Nat.pow_lt_pow_right (by decide) hu
  intro k
  induction k with
  | zero =>
    intro f hk hkn hf K H locs ls hP hD hS hl
    refine lv_iload hx hb dX2_cryptoSort_65 (lv_at hl 4 rfl) ?_
    refine ns_as (nI (2 ^ u)) (by rw [Nat.pow_zero, Nat.mul_one]) ?_
    refine lv_iload_n hx hb dX2_cryptoSort_67 rfl (lv_at hl 3 rfl) ?_
    refine lv_icmp_le (tgt := 118) hx hb dX2_cryptoSort_68 (by decide) (fun c_1 => ?_) (fun c_1 => ?_)
    · exact K H locs ls hP hD hS (lv_sub hl [0, 1, 2, 3] rfl)
    · exact absurd (nI_le (Nat.le_refl _) (by omega)) c_1
  | succ k ih =>
    intro f hk hkn hf K H locs ls hP hD hS hl
    have e1 : 2 ^ u * 2 ^ (k + 1) = 2 ^ (u + (k + 1)) := (Nat.pow_add 2 u (k + 1)).symm
    have hv6 : 2 ^ (u + (k + 1)) < 2 ^ 6 := Nat.pow_lt_pow_right (by decide) hk
    have hlt : 2 ^ u < 2 ^ (u + (k + 1)) := Nat.pow_lt_pow_right (by decide) (by omega)
    have hl : lv_has ls 6 [(0, .ref h0), (1, .int (nI n)), (2, .int tp), (3, .int (nI (2 ^ u))), (4, .int (nI (2 ^ (u + (k + 1)))))] := by rw [e1] at hl; exact hl
    refine lv_iload hx hb dX2_cryptoSort_65 (lv_at hl 4 rfl) ?_
    refine lv_iload_n hx hb dX2_cryptoSort_67 rfl (lv_at hl 3 rfl) ?_
    refine lv_icmp_le (tgt := 118) hx hb dX2_cryptoSort_68 (by decide) (fun c_2 => ?_) (fun c_2 => ?_)
    · exact absurd c_2 (nI_ge hlt (by omega))
    · refine lv_iconst (v := nI 0) hx hb dX2_cryptoSort_71 (by decide +kernel) ?_
      refine lv_istore (lv' := [(5, .int (nI 0)), (0, .ref h0), (1, .int (nI n)), (2, .int tp), (3, .int (nI (2 ^ u))), (4, .int (nI (2 ^ (u + (k + 1)))))]) hx hb dX2_cryptoSort_72 hl (by decide) rfl (fun ls hl => ?_)
      refine lp_B (v := u + (k + 1)) (f := f) S hA hK hn (by omega) hk hkn hf (fun H locs ls hP hD hS hl => ?_) (n - 2 ^ (u + (k + 1))) 0 (Nat.zero_add _) H locs ls hP hD hS (lv_sub hl [1, 2, 3, 4, 5, 0] rfl)
      have e4 : 2 ^ (u + (k + 1)) = 2 ^ (u + k) * 2 := by rw [← Nat.add_assoc, Nat.pow_succ]
      have e3 : 2 ^ (u + (k + 1)) / 2 ^ 1 = 2 ^ u * 2 ^ k := by rw [e4, Nat.pow_one, ← Nat.pow_add]; omega
      refine lv_iload hx hb dX2_cryptoSort_109 (lv_at hl 4 rfl) ?_
      refine lv_iconst (v := nI 1) hx hb dX2_cryptoSort_111 (by decide +kernel) ?_
      refine lv_iushr (v := (((nI (2 ^ (u + (k + 1)))).toUInt32 >>> ((nI 1).toUInt32 &&& Int32.toUInt32 31)).toInt32)) hx hb dX2_cryptoSort_112 rfl ?_
      refine ns_as (nI (2 ^ u * 2 ^ k)) (by rw [pk_ushrN (n := 2 ^ (u + (k + 1))) (by omega) (nI 1) 1 (by decide +kernel), e3]) ?_
      refine lv_istore (lv' := [(4, .int (nI (2 ^ u * 2 ^ k))), (0, .ref h0), (1, .int (nI n)), (2, .int tp), (3, .int (nI (2 ^ u)))]) hx hb dX2_cryptoSort_113 hl (by decide) rfl (fun ls hl => ?_)
      refine lv_goto (tgt := 65) hx hb dX2_cryptoSort_115 (by decide) ?_
      refine ih (ns_pp (2 ^ u) (2 ^ u) (2 ^ (u + (k + 1))) f (n - 2 ^ (u + (k + 1)))) (by omega) (Nat.lt_trans (Nat.pow_lt_pow_right (by decide) (by omega)) hkn) (ns_bd_pp hf _ _ _ _) (fun H locs ls hP hD hS hl => ?_) H locs ls hP hD hS (lv_sub hl [1, 2, 3, 4, 0] rfl)
      have e2 : (ns_mid n (2 ^ u) k (ns_pp (2 ^ u) (2 ^ u) (2 ^ (u + (k + 1))) f (n - 2 ^ (u + (k + 1))))) = (ns_mid n (2 ^ u) (k + 1) f) := by show _ = ns_mid n (2 ^ u) k (ns_pp (2 ^ u) (2 ^ u) (2 ^ u * 2 ^ (k + 1)) f (n - 2 ^ u * 2 ^ (k + 1))); rw [e1]
      exact K H locs ls (by rw [← e2]; exact hP) (by rw [← e2]; exact hD) hS hl
set_option maxHeartbeats 4000000 in
set_option maxRecDepth 100000 in
/-- the stages -/
theorem lp_D {p : Program} {l : Launch} {e : Env} {s : State} {m : MethodId} {args : Array Value} {below : List Frame} {meth : Method} {c : Code} {Q : State → Prop} {D : va_G} {A : Nat → Prop} {h0 : Nat} {d0 : ClassId} {n T : Nat} (S : CallFix p m c cX2_cryptoSort 6 s args lw_all RX2) (hA : ∀ q : Nat, s.heap.size ≤ q → A q) (hK : va_K D vwCl [(d0, .int)] s) (hn : n ≤ 64) (hT : T < 6) (hTn : 2 ^ T < n) :
    ∀ (v : Nat) (f : Nat → Int32), v ≤ T + 1 → ns_bd f → (∀ (H : Heap) (locs : List Loc) (ls : Array Slot), va_P D vwCl [(h0, .inl (d0, 64, .inl (ns_out n T v f)))] H → va_D A [(h0, .inl (d0, 64, .inl (ns_out n T v f)))] → va_S A s.heap H locs → lv_has ls 6 [(0, .ref h0), (1, .int (nI n)), (2, .int (nI (2 ^ T)))] → W p l e ({ frames := 1, cells := 0, slots := 0, locals := 26 } : Room) s m args below meth c H locs 0 0 Q (F0 m 125 ls [])) → ∀ (H : Heap) (locs : List Loc) (ls : Array Slot), va_P D vwCl [(h0, .inl (d0, 64, .inl f))] H → va_D A [(h0, .inl (d0, 64, .inl f))] → va_S A s.heap H locs → lv_has ls 6 [(0, .ref h0), (1, .int (nI n)), (2, .int (nI (2 ^ T))), (3, .int (nI (2 ^ v / 2)))] → W p l e ({ frames := 1, cells := 0, slots := 0, locals := 26 } : Room) s m args below meth c H locs 0 0 Q (F0 m 24 ls []) := by
  obtain ⟨hx, hb, hml, hown, hts⟩ := id S
  intro v
  induction v with
  | zero =>
    intro f hv hf K H locs ls hP hD hS hl
    refine lv_iload_n hx hb dX2_cryptoSort_24 rfl (lv_at hl 3 rfl) ?_
    refine ns_as (nI 0) rfl ?_
    refine lv_if_le (tgt := 125) hx hb dX2_cryptoSort_25 (by decide) (fun c_1 => ?_) (fun c_1 => ?_)
    · exact K H locs ls hP hD hS (lv_sub hl [0, 1, 2] rfl)
    · exact absurd (by decide +kernel : nI 0 ≤ 0) c_1
  | succ v ih =>
    intro f hv hf K H locs ls hP hD hS hl
    have e1 : 2 ^ (v + 1) / 2 = 2 ^ v := by rw [Nat.pow_succ]; omega
    have hp : 0 < 2 ^ v := Nat.two_pow_pos v
    have hv6 : 2 ^ v < 2 ^ 6 := Nat.pow_lt_pow_right (by decide) (by omega)
    have hvT : 2 ^ v ≤ 2 ^ T := Nat.pow_le_pow_right (by decide) (by omega)
    have hT6 : 2 ^ T < 2 ^ 6 := Nat.pow_lt_pow_right (by decide) hT
    have hl : lv_has ls 6 [(0, .ref h0), (1, .int (nI n)), (2, .int (nI (2 ^ T))), (3, .int (nI (2 ^ v)))] := by rw [e1] at hl; exact hl
    refine lv_iload_n hx hb dX2_cryptoSort_24 rfl (lv_at hl 3 rfl) ?_
    refine lv_if_le (tgt := 125) hx hb dX2_cryptoSort_25 (by decide) (fun c_2 => ?_) (fun c_2 => ?_)
    · exact absurd c_2 (nI_nle hp (by omega))
    · refine lv_iconst (v := nI 0) hx hb dX2_cryptoSort_28 (by decide +kernel) ?_
      refine lv_istore (lv' := [(5, .int (nI 0)), (0, .ref h0), (1, .int (nI n)), (2, .int (nI (2 ^ T))), (3, .int (nI (2 ^ v)))]) hx hb dX2_cryptoSort_29 hl (by decide) rfl (fun ls hl => ?_)
      refine lp_A (u := v) (f := f) S hA hK hn (by omega) (by omega) hf (fun H locs ls hP hD hS hl => ?_) (n - 2 ^ v) 0 (Nat.zero_add _) H locs ls hP hD hS (lv_sub hl [1, 2, 3, 4, 0] rfl)
      refine lv_iload_n hx hb dX2_cryptoSort_62 rfl (lv_at hl 2 rfl) ?_
      refine ns_as (nI (2 ^ v * 2 ^ (T - v))) (by rw [← Nat.pow_add, show v + (T - v) = T by omega]) ?_
      refine lv_istore (lv' := [(4, .int (nI (2 ^ v * 2 ^ (T - v)))), (0, .ref h0), (1, .int (nI n)), (2, .int (nI (2 ^ T))), (3, .int (nI (2 ^ v)))]) hx hb dX2_cryptoSort_63 hl (by decide) rfl (fun ls hl => ?_)
      refine lp_C (u := v) S hA hK hn (by omega) (T - v) (ns_pp (2 ^ v) 0 (2 ^ v) f (n - 2 ^ v)) (by omega) (by rw [show v + (T - v) = T by omega]; exact hTn) (ns_bd_pp hf _ _ _ _) (fun H locs ls hP hD hS hl => ?_) H locs ls hP hD hS (lv_sub hl [1, 2, 3, 4, 0] rfl)
      refine lv_iload_n hx hb dX2_cryptoSort_118 rfl (lv_at hl 3 rfl) ?_
      refine lv_iconst (v := nI 1) hx hb dX2_cryptoSort_119 (by decide +kernel) ?_
      refine lv_iushr (v := (((nI (2 ^ v)).toUInt32 >>> ((nI 1).toUInt32 &&& Int32.toUInt32 31)).toInt32)) hx hb dX2_cryptoSort_120 rfl ?_
      refine ns_as (nI (2 ^ v / 2)) (pk_ushrN (by omega) _ 1 (by decide +kernel)) ?_
      refine lv_istore_n (lv' := [(3, .int (nI (2 ^ v / 2))), (0, .ref h0), (1, .int (nI n)), (2, .int (nI (2 ^ T)))]) hx hb dX2_cryptoSort_121 rfl hl (by decide) rfl (fun ls hl => ?_)
      refine lv_goto (tgt := 24) hx hb dX2_cryptoSort_122 (by decide) ?_
      exact ih (ns_mid n (2 ^ v) (T - v) (ns_pp (2 ^ v) 0 (2 ^ v) f (n - 2 ^ v))) (by omega) (ns_bd_mid _ _ _ _ (ns_bd_pp hf _ _ _ _)) K H locs ls hP hD hS (lv_sub hl [1, 2, 3, 0] rfl)
set_option maxHeartbeats 4000000 in
set_option maxRecDepth 100000 in
/-- the greatest power of two below n -/
theorem lp_E {p : Program} {l : Launch} {e : Env} {s : State} {m : MethodId} {args : Array Value} {below : List Frame} {meth : Method} {c : Code} {Q : State → Prop} {D : va_G} {A : Nat → Prop} {h0 : Nat} {d0 : ClassId} {n : Nat} {f : Nat → Int32} (S : CallFix p m c cX2_cryptoSort 6 s args lw_all RX2) (hA : ∀ q : Nat, s.heap.size ≤ q → A q) (hK : va_K D vwCl [(d0, .int)] s) (hn : n ≤ 64) (K : ∀ T : Nat, T < 6 → 2 ^ T < n → n ≤ 2 ^ (T + 1) → ∀ (H : Heap) (locs : List Loc) (ls : Array Slot), va_P D vwCl [(h0, .inl (d0, 64, .inl f))] H → va_D A [(h0, .inl (d0, 64, .inl f))] → va_S A s.heap H locs → lv_has ls 6 [(0, .ref h0), (1, .int (nI n)), (2, .int (nI (2 ^ T)))] → W p l e ({ frames := 1, cells := 0, slots := 0, locals := 26 } : Room) s m args below meth c H locs 0 0 Q (F0 m 22 ls [])) :
    ∀ (cnt v : Nat), v + cnt = 6 → 2 ^ v < n → ∀ (H : Heap) (locs : List Loc) (ls : Array Slot), va_P D vwCl [(h0, .inl (d0, 64, .inl f))] H → va_D A [(h0, .inl (d0, 64, .inl f))] → va_S A s.heap H locs → lv_has ls 6 [(0, .ref h0), (1, .int (nI n)), (2, .int (nI (2 ^ v)))] → W p l e ({ frames := 1, cells := 0, slots := 0, locals := 26 } : Room) s m args below meth c H locs 0 0 Q (F0 m 8 ls []) := by
  obtain ⟨hx, hb, hml, hown, hts⟩ := id S
  intro cnt
  induction cnt with
  | zero =>
    intro v hv hvn
    have hv : v = 6 := by omega
    subst hv
    exact absurd hvn (by omega)
  | succ cnt ih =>
    intro v hv hvn H locs ls hP hD hS hl
    have hp0 : 0 < 2 ^ v := Nat.two_pow_pos v
    have e1 : 2 ^ (v + 1) = 2 ^ v + 2 ^ v := by rw [Nat.pow_succ]; omega
    refine lv_iload_n hx hb dX2_cryptoSort_8 rfl (lv_at hl 2 rfl) ?_
    refine lv_iload_n hx hb dX2_cryptoSort_9 rfl (lv_at hl 1 rfl) ?_
    refine lv_iload_n hx hb dX2_cryptoSort_10 rfl (lv_at hl 2 rfl) ?_
    refine lv_isub hx hb dX2_cryptoSort_11 ?_
    refine ns_as (nI (n - 2 ^ v)) (pk_sub (by omega)) ?_
    refine lv_icmp_ge (tgt := 22) hx hb dX2_cryptoSort_12 (by decide) (fun c_1 => ?_) (fun c_1 => ?_)
    · have hle : n - 2 ^ v ≤ 2 ^ v := (nI_leI (by omega) (by omega)).mp c_1
      exact K v (by omega) hvn (by omega) H locs ls hP hD hS hl
    · have hle : ¬ n - 2 ^ v ≤ 2 ^ v := fun q => c_1 ((nI_leI (by omega) (by omega)).mpr q)
      refine lv_iload_n hx hb dX2_cryptoSort_15 rfl (lv_at hl 2 rfl) ?_
      refine lv_iload_n hx hb dX2_cryptoSort_16 rfl (lv_at hl 2 rfl) ?_
      refine lv_iadd hx hb dX2_cryptoSort_17 ?_
      refine ns_as (nI (2 ^ (v + 1))) (by rw [nI_add, e1]) ?_
      refine lv_istore_n (lv' := [(2, .int (nI (2 ^ (v + 1)))), (0, .ref h0), (1, .int (nI n))]) hx hb dX2_cryptoSort_18 rfl hl (by decide) rfl (fun ls hl => ?_)
      refine lv_goto (tgt := 8) hx hb dX2_cryptoSort_19 (by decide) ?_
      exact ih (v + 1) (by omega) (by omega) H locs ls hP hD hS (lv_sub hl [1, 2, 0] rfl)
set_option maxHeartbeats 4000000 in
set_option maxRecDepth 100000 in
/-- Utils.cryptoSort(L, n): the first n places sorted -/
theorem met_cryptoSort (l : Launch) (D : va_G) (sz : Nat) (h0 : Nat) (d0 : ClassId) (f : Nat → Int32) (n : Nat) (h2 : 2 ≤ n) (hn : n ≤ 64) (hf : ns_bd f) : Met l yX2_cryptoSort (ws_ yX2_cryptoSort cX2_cryptoSort 6 none) ({ frames := 1, cells := 0, slots := 0, locals := 26 }) (ns_Pre D sz [(h0, .inl (d0, 64, .inl f))] [(d0, .int)] [.ref h0, .int (nI n)]) (va_Qv (fun _ : Unit => True) (ns_B D [(d0, .int)] (va_A [(h0, .inl (d0, 64, .inl f))] sz) [(h0, .inl (d0, 64, .inl (ns_srt f (n - 1))))]) (va_A [(h0, .inl (d0, 64, .inl f))] sz)) 0 0 (va_A [(h0, .inl (d0, 64, .inl f))] sz) := by
  refine Met.ofW (cc := cX2_cryptoSort) (maxL := 6) (ret := none) (by decide) rfl ?_
  intro p e s m args below meth c s₁ B hml hv
  obtain ⟨rfl, hsz, hP, hK, hD0⟩ := hv
  have hx := B.exec
  have hb := B.bytes
  have hr := B.returns
  have hts := atoms_spec (ws := ws_ yX2_cryptoSort cX2_cryptoSort 6 none) B.pre
  have hts : ∀ w ∈ lw_all, w.before _ s = true := fun w h => hts w (List.mem_cons_of_mem _ h)
  have hown : s.vm.findClass RX2 = some m.cls := findClass_of_methodNamed B.named
  have hlocks := B.notSynchronized
  subst hsz
  have hD := hD0.self (sz := s.heap.size)
  generalize hAe : va_A [(h0, .inl (d0, 64, .inl f))] s.heap.size = A at hD ⊢
  have hA : ∀ q : Nat, s.heap.size ≤ q → A q := fun q h => by rw [← hAe]; exact Or.inr h
  have hS : va_S A s.heap s.heap [] := va_S.rf
  have hP : va_P D vwCl [(h0, .inl (d0, 64, .inl f))] s.heap := hP
  have hl := lv_entry ([.ref h0, .int (nI n)]) (n := 6) (Nat.le_of_ble_eq_true rfl)
  rw [lg_entry_eq]
  generalize (lg_sl ([.ref h0, .int (nI n)]) ++ List.replicate (6 - (lg_sl ([.ref h0, .int (nI n)])).length) Slot.unset).toArray = ls at hl ⊢
  have hl : lv_has ls 6 [(0, .ref h0), (1, .int (nI n))] := hl
  refine lv_iload_n hx hb dX2_cryptoSort_0 rfl (lv_at hl 1 rfl) ?_
  refine lv_iconst (v := nI 2) hx hb dX2_cryptoSort_1 (by decide +kernel) ?_
  refine lv_icmp_ge (tgt := 6) hx hb dX2_cryptoSort_2 (by decide) (fun c_1 => ?_) (fun c_1 => ?_)
  · refine lv_iconst (v := nI 1) hx hb dX2_cryptoSort_6 (by decide +kernel) ?_
    refine ns_as (nI (2 ^ 0)) rfl ?_
    refine lv_istore_n (lv' := [(2, .int (nI (2 ^ 0))), (0, .ref h0), (1, .int (nI n))]) hx hb dX2_cryptoSort_7 rfl hl (by decide) rfl (fun ls hl => ?_)
    refine lp_E (f := f) ⟨hx, hb, hml, hown, hts⟩ hA hK hn (fun T hT hTn hnT H locs ls hP hD hS hl => ?_) 6 0 rfl (by omega) s.heap [] ls hP hD hS (lv_sub hl [1, 2, 0] rfl)
    refine lv_iload_n hx hb dX2_cryptoSort_22 rfl (lv_at hl 2 rfl) ?_
    refine ns_as (nI (2 ^ (T + 1) / 2)) (by rw [show 2 ^ (T + 1) / 2 = 2 ^ T by rw [Nat.pow_succ]; omega]) ?_
    refine lv_istore_n (lv' := [(3, .int (nI (2 ^ (T + 1) / 2))), (0, .ref h0), (1, .int (nI n)), (2, .int (nI (2 ^ T)))]) hx hb dX2_cryptoSort_23 rfl hl (by decide) rfl (fun ls hl => ?_)
    refine lp_D (T := T) ⟨hx, hb, hml, hown, hts⟩ hA hK hn hT hTn (T + 1) f (Nat.le_refl _) hf (fun H locs ls hP hD hS hl => ?_) H locs ls hP hD hS (lv_sub hl [1, 2, 3, 0] rfl)
    have hP : va_P D vwCl [(h0, .inl (d0, 64, .inl (ns_srt f (n - 1))))] H := by rw [ns_agree h2 hnT] at hP; exact hP
    have hD : va_D A [(h0, .inl (d0, 64, .inl (ns_srt f (n - 1))))] := by rw [ns_agree h2 hnT] at hD; exact hD
    have hP9 := hP.sub (ws' := [(h0, .inl (d0, 64, .inl (ns_srt f (n - 1))))]) [0] rfl
    have hD9 := hD.sub (ws' := [(h0, .inl (d0, 64, .inl (ns_srt f (n - 1))))]) [0] (by decide) rfl
    exact W.vret hx hb hr (fun t ht hW => ⟨⟨(), rfl, trivial, by rw [ht]; exact hP9, va_K.moved hW.alike hK, hD9⟩, hS.F ht⟩) hS.2.2 dX2_cryptoSort_125
  · exact absurd (nI_le h2 (by omega)) c_1
set_option maxHeartbeats 4000000 in
set_option maxRecDepth 100000 in
/-- sort() -/
theorem met_sort (l : Launch) (D : va_G) (sz : Nat) (h0 h1 : Nat) (d0 : ClassId) (n : Nat) (f : Nat → Int32) (h2 : 2 ≤ n) (hn : n ≤ 64) (hf : ns_bd f) : Met l yX1_sort (ws_ yX1_sort cX1_sort 1 none) ({ frames := 2, cells := 0, slots := 0, locals := 51 }) (ns_Pre D sz [(h0, .inr (0, [.ref h1, .int (nI n)])), (h1, .inl (d0, 64, .inl f))] [(d0, .int)] [.ref h0]) (va_Qv (fun _ : Unit => True) (ns_B D [(d0, .int)] (va_A [(h0, .inr (0, [.ref h1, .int (nI n)])), (h1, .inl (d0, 64, .inl f))] sz) [(h0, .inr (0, [.ref h1, .int (nI n)])), (h1, .inl (d0, 64, .inl (ns_srt f (n - 1))))]) (va_A [(h0, .inr (0, [.ref h1, .int (nI n)])), (h1, .inl (d0, 64, .inl f))] sz)) 0 0 (va_A [(h0, .inr (0, [.ref h1, .int (nI n)])), (h1, .inl (d0, 64, .inl f))] sz) := by
  refine Met.ofW (cc := cX1_sort) (maxL := 1) (ret := none) (by decide) rfl ?_
  intro p e s m args below meth c s₁ B hml hv
  obtain ⟨rfl, hsz, hP, hK, hD0⟩ := hv
  have hx := B.exec
  have hb := B.bytes
  have hr := B.returns
  have hts := atoms_spec (ws := ws_ yX1_sort cX1_sort 1 none) B.pre
  have hts : ∀ w ∈ lw_all, w.before _ s = true := fun w h => hts w (List.mem_cons_of_mem _ h)
  have hown : s.vm.findClass RX1 = some m.cls := findClass_of_methodNamed B.named
  have hlocks := B.notSynchronized
  subst hsz
  have hD := hD0.self (sz := s.heap.size)
  generalize hAe : va_A [(h0, .inr (0, [.ref h1, .int (nI n)])), (h1, .inl (d0, 64, .inl f))] s.heap.size = A at hD ⊢
  have hA : ∀ q : Nat, s.heap.size ≤ q → A q := fun q h => by rw [← hAe]; exact Or.inr h
  have hS : va_S A s.heap s.heap [] := va_S.rf
  have hP : va_P D vwCl [(h0, .inr (0, [.ref h1, .int (nI n)])), (h1, .inl (d0, 64, .inl f))] s.heap := hP
  have hl := lv_entry ([.ref h0]) (n := 1) (Nat.le_of_ble_eq_true rfl)
  rw [lg_entry_eq]
  generalize (lg_sl ([.ref h0]) ++ List.replicate (1 - (lg_sl ([.ref h0])).length) Slot.unset).toArray = ls at hl ⊢
  have hl : lv_has ls 1 [(0, .ref h0)] := hl
  refine lv_aload_n hx hb dX1_sort_0 rfl (lv_at hl 0 rfl) ?_
  refine va_get (D := D) (ci := 0) (v := .ref h1) (C := RX1) (T := TX1) (N := 2) hx hb hts in_X1 hown hK hP 0 rfl rfl 0 (by decide) (hts _ q11) (fun _ h9 => h9) rfl dX1_sort_1 ?_
  refine lv_aload_n hx hb dX1_sort_4 rfl (lv_at hl 0 rfl) ?_
  refine va_get (D := D) (ci := 0) (v := .int (nI n)) (C := RX1) (T := TX1) (N := 2) hx hb hts in_X1 hown hK hP 0 rfl rfl 1 (by decide) (hts _ q12) (fun _ h9 => h9) rfl dX1_sort_5 ?_
  have hPc := hP.sub (ws' := [(h1, .inl (d0, 64, .inl f))]) [1] rfl
  have hDc := hD.sub (ws' := [(h1, .inl (d0, 64, .inl f))]) [1] (by decide) rfl
  have hKc := hK.sub (tys' := [(d0, .int)]) [0] rfl
  have hFc := va_free (wc := [(h1, .inl (d0, 64, .inl f))]) hD hS hA [1] rfl
  refine va_callv (va_runS (As := [.ref h1, .int (nI n)]) (rest := []) ⟨hx, hb, hml, hown, hts⟩ (met_cryptoSort l D _ h1 d0 f n h2 hn hf) (va_cwS 2 hts (lw_S q37 q38 q2 q39) rfl rfl rfl (by decide +kernel) ⟨Nat.le_of_ble_eq_true rfl, Nat.le_of_ble_eq_true rfl⟩) ⟨ns_fb, ns_pr hPc hKc hDc⟩ rfl rfl hl.1 rfl (lv_room (Nat.le_of_ble_eq_true rfl)) dX1_sort_8 ⟨Nat.le_of_ble_eq_true rfl, Nat.le_of_ble_eq_true rfl⟩) hS (fun q _ h => hFc q h) hFc (fun ua ta H1 locs ht hvm hw hB hz1 hk1 hS => ?_)
  obtain ⟨hP1, hK1, hD1⟩ := hB
  rw [ht] at hP1
  obtain ⟨hP, hD⟩ := va_join (wr := [(h0, .inr (0, [.ref h1, .int (nI n)]))]) (w1 := [(h1, .inl (d0, 64, .inl (ns_srt f (n - 1))))]) hP hD [1] [0] rfl rfl (by decide) (by decide) hk1 hFc hP1 hD1
  generalize H1 = H at hP hS ⊢
  have hP := hP.sub (ws' := [(h0, .inr (0, [.ref h1, .int (nI n)])), (h1, .inl (d0, 64, .inl (ns_srt f (n - 1))))]) [0, 1] rfl
  have hD := hD.sub (ws' := [(h0, .inr (0, [.ref h1, .int (nI n)])), (h1, .inl (d0, 64, .inl (ns_srt f (n - 1))))]) [0, 1] (by decide) rfl
  have hP9 := hP.sub (ws' := [(h0, .inr (0, [.ref h1, .int (nI n)])), (h1, .inl (d0, 64, .inl (ns_srt f (n - 1))))]) [0, 1] rfl
  have hD9 := hD.sub (ws' := [(h0, .inr (0, [.ref h1, .int (nI n)])), (h1, .inl (d0, 64, .inl (ns_srt f (n - 1))))]) [0, 1] (by decide) rfl
  exact W.vret hx hb hr (fun t ht hW => ⟨⟨(), rfl, trivial, by rw [ht]; exact hP9, va_K.moved hW.alike hK, hD9⟩, hS.F ht⟩) hS.2.2 dX1_sort_11
end
section
set_option maxHeartbeats 4000000 in
set_option maxRecDepth 100000 in
/-- NetworkSort(): a row of 64 zeros, the length 64 -/
theorem met_init (l : Launch) (D : va_G) (sz : Nat) (h0 : Nat) : Met l yX1_init (ws_ yX1_init cX1_init 1 none) ({ frames := 1, cells := 1, slots := 64, locals := 12 }) (ns_Pre D sz [(h0, .inr (0, [.null, .int 0]))] [] [.ref h0]) (va_Qv (fun _ : Nat × ClassId => True) (fun u t => va_P D vwCl [(h0, .inr (0, [.ref u.1, .int (nI 64)])), (u.1, .inl (u.2, 64, .inl (fun _ => 0)))] t.heap ∧ va_K D vwCl [(u.2, .int)] t ∧ va_D (va_A [(h0, .inr (0, [.null, .int 0]))] sz) [(h0, .inr (0, [.ref u.1, .int (nI 64)])), (u.1, .inl (u.2, 64, .inl (fun _ => 0)))]) (va_A [(h0, .inr (0, [.null, .int 0]))] sz)) 1 64 (va_A [(h0, .inr (0, [.null, .int 0]))] sz) := by
  refine Met.ofW (cc := cX1_init) (maxL := 1) (ret := none) (by decide) rfl ?_
  intro p e s m args below meth c s₁ B hml hv
  obtain ⟨rfl, hsz, hP, hK, hD0⟩ := hv
  have hx := B.exec
  have hb := B.bytes
  have hr := B.returns
  have hts := atoms_spec (ws := ws_ yX1_init cX1_init 1 none) B.pre
  have hts : ∀ w ∈ lw_all, w.before _ s = true := fun w h => hts w (List.mem_cons_of_mem _ h)
  have hown : s.vm.findClass RX1 = some m.cls := findClass_of_methodNamed B.named
  have hlocks := B.notSynchronized
  have hin : meth.name = "<init>" := (name_of_methodNamed B.named B.method).1
  subst hsz
  have hD := hD0.self (sz := s.heap.size)
  generalize hAe : va_A [(h0, .inr (0, [.null, .int 0]))] s.heap.size = A at hD ⊢
  have hA : ∀ q : Nat, s.heap.size ≤ q → A q := fun q h => by rw [← hAe]; exact Or.inr h
  have hS : va_S A s.heap s.heap [] := va_S.rf
  have hP : va_P D vwCl [(h0, .inr (0, [.null, .int 0]))] s.heap := hP
  have hl := lv_entry ([.ref h0]) (n := 1) (Nat.le_of_ble_eq_true rfl)
  rw [lg_entry_eq]
  generalize (lg_sl ([.ref h0]) ++ List.replicate (1 - (lg_sl ([.ref h0])).length) Slot.unset).toArray = ls at hl ⊢
  have hl : lv_has ls 1 [(0, .ref h0)] := hl
  refine lv_aload_n hx hb dX1_init_0 rfl (lv_at hl 0 rfl) ?_
  refine W.objInit hx hb hown (hts _ q8) (hts _ q9) (hts _ q10) rfl (by rw [hml]; exact hl.1) rfl dX1_init_1 (Nat.le_of_ble_eq_true rfl) (Nat.le_of_ble_eq_true rfl) ?_
  refine W.eq (g2 := F0 m 4 ls []) rfl ?_
  refine lv_aload_n hx hb dX1_init_4 rfl (lv_at hl 0 rfl) ?_
  refine lv_bipush (v := nI 64) hx hb dX1_init_5 (by decide +kernel) ?_
  refine va_newa (atype := .int) (ty := .int) (a0 := (64, .inl (fun _ => 0))) (N' := 64) hx hb (hts _ q18) rfl hK hP hD hS hA (fun _ => rfl) (by decide +kernel) (by decide +kernel) (Nat.le_of_ble_eq_true rfl) (Nat.le_of_ble_eq_true rfl) (Nat.le_of_ble_eq_true rfl) dX1_init_7 (fun h1 d0 H hK hP hD hS => ?_)
  have hP : va_P D vwCl [(h0, .inr (0, [.null, .int 0])), (h1, .inl (d0, 64, .inl (fun _ => 0)))] H := hP
  have hD : va_D A [(h0, .inr (0, [.null, .int 0])), (h1, .inl (d0, 64, .inl (fun _ => 0)))] := hD
  have hK : va_K D vwCl [(d0, .int)] s := hK
  refine va_putF (D := D) (ci := 0) (v := .ref h1) (ty := (.array .int)) (C := RX1) (T := TX1) (N := 2) hx hb hts in_X1 tyX1 tyX1_ok nmX1 hown hK hP hD hS 0 rfl rfl 0 (by decide) (hts _ q11) (fun _ h9 => h9) rfl hin rfl (by decide +kernel) rfl rfl (Nat.le_of_ble_eq_true rfl) dX1_init_9 (fun H locs hP hD hS => ?_)
  have hP : va_P D vwCl [(h0, .inr (0, [.ref h1, .int 0])), (h1, .inl (d0, 64, .inl (fun _ => 0)))] H := hP
  have hD : va_D A [(h0, .inr (0, [.ref h1, .int 0])), (h1, .inl (d0, 64, .inl (fun _ => 0)))] := hD
  refine lv_aload_n hx hb dX1_init_12 rfl (lv_at hl 0 rfl) ?_
  refine lv_bipush (v := nI 64) hx hb dX1_init_13 (by decide +kernel) ?_
  refine va_put (D := D) (ci := 0) (v := .int (nI 64)) (ty := .int) (C := RX1) (T := TX1) (N := 2) hx hb hts in_X1 tyX1 tyX1_ok nmX1 hown hK hP hD hS 0 rfl rfl 1 (by decide) (hts _ q12) (fun _ h9 => h9) rfl (by decide +kernel) rfl rfl (Nat.le_of_ble_eq_true rfl) dX1_init_15 (fun H locs hP hD hS => ?_)
  have hP : va_P D vwCl [(h0, .inr (0, [.ref h1, .int (nI 64)])), (h1, .inl (d0, 64, .inl (fun _ => 0)))] H := hP
  have hD : va_D A [(h0, .inr (0, [.ref h1, .int (nI 64)])), (h1, .inl (d0, 64, .inl (fun _ => 0)))] := hD
  have hP9 := hP.sub (ws' := [(h0, .inr (0, [.ref h1, .int (nI 64)])), (h1, .inl (d0, 64, .inl (fun _ => 0)))]) [0, 1] rfl
  have hD9 := hD.sub (ws' := [(h0, .inr (0, [.ref h1, .int (nI 64)])), (h1, .inl (d0, 64, .inl (fun _ => 0)))]) [0, 1] (by decide) rfl
  exact W.vret hx hb hr (fun t ht hW => ⟨⟨(h1, d0), rfl, trivial, by rw [ht]; exact hP9, va_K.moved hW.alike hK, hD9⟩, hS.F ht⟩) hS.2.2 dX1_init_18
set_option maxHeartbeats 4000000 in
set_option maxRecDepth 100000 in
/-- the inner loop of plainly -/
theorem lp_ins {p : Program} {l : Launch} {e : Env} {s : State} {m : MethodId} {args : Array Value} {below : List Frame} {meth : Method} {c : Code} {Q : State → Prop} {D : va_G} {A : Nat → Prop} {R : Room} {h0 : Nat} {d0 : ClassId} {n i v : Int32} (S : CallFix p m c cX0_plainly 5 s args lw_all RX0) (hA : ∀ q : Nat, s.heap.size ≤ q → A q) (hK : va_K D vwCl [(d0, .int)] s)  :
    ∀ (k : Nat) (f : Nat → Int32), k < 64 → (∀ (H : Heap) (locs : List Loc) (ls : Array Slot), va_P D vwCl [(h0, .inl (d0, 64, .inl (ns_ins v k f)))] H → va_D A [(h0, .inl (d0, 64, .inl (ns_ins v k f)))] → va_S A s.heap H locs → lv_has ls 5 [(0, .ref h0), (1, .int n), (2, .int i)] → W p l e R s m args below meth c H locs 0 0 Q (F0 m 50 ls [])) → ∀ (H : Heap) (locs : List Loc) (ls : Array Slot), va_P D vwCl [(h0, .inl (d0, 64, .inl f))] H → va_D A [(h0, .inl (d0, 64, .inl f))] → va_S A s.heap H locs → lv_has ls 5 [(0, .ref h0), (1, .int n), (2, .int i), (3, .int v), (4, .int (nI k))] → W p l e R s m args below meth c H locs 0 0 Q (F0 m 14 ls []) := by
  obtain ⟨hx, hb, hml, hown, hts⟩ := id S
  intro k
  induction k with
  | zero =>
    intro f hk K H locs ls hP hD hS hl
    refine lv_iload hx hb dX0_plainly_14 (lv_at hl 4 rfl) ?_
    refine lv_if_le (tgt := 45) hx hb dX0_plainly_16 (by decide) (fun c_1 => ?_) (fun c_1 => ?_)
    · refine lv_aload_n hx hb dX0_plainly_45 rfl (lv_at hl 0 rfl) ?_
      refine lv_iload hx hb dX0_plainly_46 (lv_at hl 4 rfl) ?_
      refine lv_iload_n hx hb dX0_plainly_48 rfl (lv_at hl 3 rfl) ?_
      refine ns_ast hx hb hK hP hD hS 0 0 rfl rfl (j := 0) hk (by decide) dX0_plainly_49 (fun H locs hP hD hS => ?_)
      have hP : va_P D vwCl [(h0, .inl (d0, 64, .inl (upd f 0 v)))] H := hP
      have hD : va_D A [(h0, .inl (d0, 64, .inl (upd f 0 v)))] := hD
      exact K H locs ls hP hD hS (lv_sub hl [0, 1, 2] rfl)
    · exact absurd (by decide +kernel : nI 0 ≤ 0) c_1
  | succ k ih =>
    intro f hk K H locs ls hP hD hS hl
    refine lv_iload hx hb dX0_plainly_14 (lv_at hl 4 rfl) ?_
    refine lv_if_le (tgt := 45) hx hb dX0_plainly_16 (by decide) (fun c_2 => ?_) (fun c_2 => ?_)
    · exact absurd c_2 (nI_nle (Nat.succ_pos k) (by omega))
    · refine lv_aload_n hx hb dX0_plainly_19 rfl (lv_at hl 0 rfl) ?_
      refine lv_iload hx hb dX0_plainly_20 (lv_at hl 4 rfl) ?_
      refine lv_iconst (v := nI 1) hx hb dX0_plainly_22 (by decide +kernel) ?_
      refine lv_isub hx hb dX0_plainly_23 ?_
      refine ns_as (nI k) (nI_pred k) ?_
      refine ns_ald hx hb hK hP 0 0 rfl rfl (j := k) (by omega) (by decide) dX0_plainly_24 ?_
      refine lv_iload_n hx hb dX0_plainly_25 rfl (lv_at hl 3 rfl) ?_
      refine lv_icmp_le (tgt := 45) hx hb dX0_plainly_26 (by decide) (fun c_3 => ?_) (fun c_3 => ?_)
      · have hle : ¬ v.toInt < (f k).toInt := by have := Int32.le_iff_toInt_le.mp c_3; omega
        refine lv_aload_n hx hb dX0_plainly_45 rfl (lv_at hl 0 rfl) ?_
        refine lv_iload hx hb dX0_plainly_46 (lv_at hl 4 rfl) ?_
        refine lv_iload_n hx hb dX0_plainly_48 rfl (lv_at hl 3 rfl) ?_
        refine ns_ast hx hb hK hP hD hS 0 0 rfl rfl (j := (k + 1)) hk (by decide) dX0_plainly_49 (fun H locs hP hD hS => ?_)
        have hP : va_P D vwCl [(h0, .inl (d0, 64, .inl (upd f (k + 1) v)))] H := hP
        have hD : va_D A [(h0, .inl (d0, 64, .inl (upd f (k + 1) v)))] := hD
        exact K H locs ls (by rw [ns_ins_f hle]; exact hP) (by rw [ns_ins_f hle]; exact hD) hS (lv_sub hl [0, 1, 2] rfl)
      · have hlt : v.toInt < (f k).toInt := by have := mt Int32.le_iff_toInt_le.mpr c_3; omega
        refine lv_aload_n hx hb dX0_plainly_29 rfl (lv_at hl 0 rfl) ?_
        refine lv_iload hx hb dX0_plainly_30 (lv_at hl 4 rfl) ?_
        refine lv_aload_n hx hb dX0_plainly_32 rfl (lv_at hl 0 rfl) ?_
        refine lv_iload hx hb dX0_plainly_33 (lv_at hl 4 rfl) ?_
        refine lv_iconst (v := nI 1) hx hb dX0_plainly_35 (by decide +kernel) ?_
        refine lv_isub hx hb dX0_plainly_36 ?_
        refine ns_as (nI k) (nI_pred k) ?_
        refine ns_ald hx hb hK hP 0 0 rfl rfl (j := k) (by omega) (by decide) dX0_plainly_37 ?_
        refine ns_ast hx hb hK hP hD hS 0 0 rfl rfl (j := (k + 1)) hk (by decide) dX0_plainly_38 (fun H locs hP hD hS => ?_)
        have hP : va_P D vwCl [(h0, .inl (d0, 64, .inl (upd f (k + 1) (f k))))] H := hP
        have hD : va_D A [(h0, .inl (d0, 64, .inl (upd f (k + 1) (f k))))] := hD
        refine lv_iinc (v := nI k) (lv' := [(4, .int (nI k)), (0, .ref h0), (1, .int n), (2, .int i), (3, .int v)]) hx hb dX0_plainly_39 hl (k := 4) rfl (ns_dec k) (by decide) rfl (fun ls hl => ?_)
        refine lv_goto (tgt := 14) hx hb dX0_plainly_42 (by decide) ?_
        refine ih (upd f (k + 1) (f k)) (by omega) (fun H locs ls hP hD hS hl => ?_) H locs ls hP hD hS (lv_sub hl [1, 2, 3, 4, 0] rfl)
        exact K H locs ls (by rw [ns_ins_t hlt]; exact hP) (by rw [ns_ins_t hlt]; exact hD) hS hl
set_option maxHeartbeats 4000000 in
set_option maxRecDepth 100000 in
/-- the outer loop of plainly -/
theorem lp_plain {p : Program} {l : Launch} {e : Env} {s : State} {m : MethodId} {args : Array Value} {below : List Frame} {meth : Method} {c : Code} {Q : State → Prop} {D : va_G} {A : Nat → Prop} {R : Room} {h0 : Nat} {d0 : ClassId} {n : Nat} {f : Nat → Int32} (S : CallFix p m c cX0_plainly 5 s args lw_all RX0) (hA : ∀ q : Nat, s.heap.size ≤ q → A q) (hK : va_K D vwCl [(d0, .int)] s) (h2 : 2 ≤ n) (hn : n ≤ 64) (K : ∀ (H : Heap) (locs : List Loc) (ls : Array Slot), va_P D vwCl [(h0, .inl (d0, 64, .inl (ns_srt f (n - 1))))] H → va_D A [(h0, .inl (d0, 64, .inl (ns_srt f (n - 1))))] → va_S A s.heap H locs → lv_has ls 5 [(0, .ref h0), (1, .int (nI n))] → W p l e R s m args below meth c H locs 0 0 Q (F0 m 56 ls [])) :
    ∀ (cnt i : Nat), i + 1 + cnt = n → ∀ (H : Heap) (locs : List Loc) (ls : Array Slot), va_P D vwCl [(h0, .inl (d0, 64, .inl (ns_srt f i)))] H → va_D A [(h0, .inl (d0, 64, .inl (ns_srt f i)))] → va_S A s.heap H locs → lv_has ls 5 [(0, .ref h0), (1, .int (nI n)), (2, .int (nI (i + 1)))] → W p l e R s m args below meth c H locs 0 0 Q (F0 m 2 ls []) := by
  obtain ⟨hx, hb, hml, hown, hts⟩ := id S
  intro cnt
  induction cnt with
  | zero =>
    intro i hi H locs ls hP hD hS hl
    have e1 : n - 1 = i := by omega
    have e2 : n = i + 1 := by omega
    refine lv_iload_n hx hb dX0_plainly_2 rfl (lv_at hl 2 rfl) ?_
    refine lv_iload_n hx hb dX0_plainly_3 rfl (lv_at hl 1 rfl) ?_
    refine lv_icmp_ge (tgt := 56) hx hb dX0_plainly_4 (by decide) (fun c_1 => ?_) (fun c_1 => ?_)
    · exact K H locs ls (by rw [e1]; exact hP) (by rw [e1]; exact hD) hS (lv_sub hl [0, 1] rfl)
    · exact absurd (nI_le (by omega) (by omega)) c_1
  | succ cnt ih =>
    intro i hi H locs ls hP hD hS hl
    have hlt : i + 1 < n := by omega
    refine lv_iload_n hx hb dX0_plainly_2 rfl (lv_at hl 2 rfl) ?_
    refine lv_iload_n hx hb dX0_plainly_3 rfl (lv_at hl 1 rfl) ?_
    refine lv_icmp_ge (tgt := 56) hx hb dX0_plainly_4 (by decide) (fun c_2 => ?_) (fun c_2 => ?_)
    · exact absurd c_2 (nI_ge hlt (by omega))
    · refine lv_aload_n hx hb dX0_plainly_7 rfl (lv_at hl 0 rfl) ?_
      refine lv_iload_n hx hb dX0_plainly_8 rfl (lv_at hl 2 rfl) ?_
      refine ns_ald hx hb hK hP 0 0 rfl rfl (j := (i + 1)) (by omega) (by decide) dX0_plainly_9 ?_
      refine lv_istore_n (lv' := [(3, .int ((ns_srt f i) (i + 1))), (0, .ref h0), (1, .int (nI n)), (2, .int (nI (i + 1)))]) hx hb dX0_plainly_10 rfl hl (by decide) rfl (fun ls hl => ?_)
      refine lv_iload_n hx hb dX0_plainly_11 rfl (lv_at hl 3 rfl) ?_
      refine lv_istore (lv' := [(4, .int (nI (i + 1))), (3, .int ((ns_srt f i) (i + 1))), (0, .ref h0), (1, .int (nI n)), (2, .int (nI (i + 1)))]) hx hb dX0_plainly_12 hl (by decide) rfl (fun ls hl => ?_)
      refine lp_ins S hA hK (i + 1) (ns_srt f i) (by omega) (fun H locs ls hP hD hS hl => ?_) H locs ls hP hD hS (lv_sub hl [2, 3, 4, 1, 0] rfl)
      have hP : va_P D vwCl [(h0, .inl (d0, 64, .inl (ns_srt f (i + 1))))] H := hP
      have hD : va_D A [(h0, .inl (d0, 64, .inl (ns_srt f (i + 1))))] := hD
      refine lv_iinc (v := nI (i + 1 + 1)) (lv' := [(2, .int (nI (i + 1 + 1))), (0, .ref h0), (1, .int (nI n))]) hx hb dX0_plainly_50 hl (k := 2) rfl (ns_inc (i + 1)) (by decide) rfl (fun ls hl => ?_)
      refine lv_goto (tgt := 2) hx hb dX0_plainly_53 (by decide) ?_
      exact ih (i + 1) (by omega) H locs ls hP hD hS (lv_sub hl [1, 2, 0] rfl)
set_option maxHeartbeats 4000000 in
set_option maxRecDepth 100000 in
/-- plainly(r, n): the first n places sorted plainly -/
theorem met_plainly (l : Launch) (D : va_G) (sz : Nat) (h0 : Nat) (d0 : ClassId) (f : Nat → Int32) (n : Nat) (h2 : 2 ≤ n) (hn : n ≤ 64) : Met l yX0_plainly (ws_ yX0_plainly cX0_plainly 5 none) ({ frames := 0, cells := 0, slots := 0, locals := 0 }) (ns_Pre D sz [(h0, .inl (d0, 64, .inl f))] [(d0, .int)] [.ref h0, .int (nI n)]) (va_Qv (fun _ : Unit => True) (ns_B D [(d0, .int)] (va_A [(h0, .inl (d0, 64, .inl f))] sz) [(h0, .inl (d0, 64, .inl (ns_srt f (n - 1))))]) (va_A [(h0, .inl (d0, 64, .inl f))] sz)) 0 0 (va_A [(h0, .inl (d0, 64, .inl f))] sz) := by
  refine Met.ofW (cc := cX0_plainly) (maxL := 5) (ret := none) (by decide) rfl ?_
  intro p e s m args below meth c s₁ B hml hv
  obtain ⟨rfl, hsz, hP, hK, hD0⟩ := hv
  have hx := B.exec
  have hb := B.bytes
  have hr := B.returns
  have hts := atoms_spec (ws := ws_ yX0_plainly cX0_plainly 5 none) B.pre
  have hts : ∀ w ∈ lw_all, w.before _ s = true := fun w h => hts w (List.mem_cons_of_mem _ h)
  have hown : s.vm.findClass RX0 = some m.cls := findClass_of_methodNamed B.named
  have hlocks := B.notSynchronized
  subst hsz
  have hD := hD0.self (sz := s.heap.size)
  generalize hAe : va_A [(h0, .inl (d0, 64, .inl f))] s.heap.size = A at hD ⊢
  have hA : ∀ q : Nat, s.heap.size ≤ q → A q := fun q h => by rw [← hAe]; exact Or.inr h
  have hS : va_S A s.heap s.heap [] := va_S.rf
  have hP : va_P D vwCl [(h0, .inl (d0, 64, .inl f))] s.heap := hP
  have hl := lv_entry ([.ref h0, .int (nI n)]) (n := 5) (Nat.le_of_ble_eq_true rfl)
  rw [lg_entry_eq]
  generalize (lg_sl ([.ref h0, .int (nI n)]) ++ List.replicate (5 - (lg_sl ([.ref h0, .int (nI n)])).length) Slot.unset).toArray = ls at hl ⊢
  have hl : lv_has ls 5 [(0, .ref h0), (1, .int (nI n))] := hl
  refine lv_iconst (v := nI 1) hx hb dX0_plainly_0 (by decide +kernel) ?_
  refine lv_istore_n (lv' := [(2, .int (nI 1)), (0, .ref h0), (1, .int (nI n))]) hx hb dX0_plainly_1 rfl hl (by decide) rfl (fun ls hl => ?_)
  refine lp_plain (f := f) ⟨hx, hb, hml, hown, hts⟩ hA hK h2 hn (fun H locs ls hP hD hS hl => ?_) (n - 1) 0 (by omega) s.heap [] ls hP hD hS (lv_sub hl [1, 2, 0] rfl)
  have hP9 := hP.sub (ws' := [(h0, .inl (d0, 64, .inl (ns_srt f (n - 1))))]) [0] rfl
  have hD9 := hD.sub (ws' := [(h0, .inl (d0, 64, .inl (ns_srt f (n - 1))))]) [0] (by decide) rfl
  exact W.vret hx hb hr (fun t ht hW => ⟨⟨(), rfl, trivial, by rw [ht]; exact hP9, va_K.moved hW.alike hK, hD9⟩, hS.F ht⟩) hS.2.2 dX0_plainly_56
set_option maxHeartbeats 4000000 in
set_option maxRecDepth 100000 in
/-- the loop of stands -/
theorem lp_stands {p : Program} {l : Launch} {e : Env} {s : State} {m : MethodId} {args : Array Value} {below : List Frame} {meth : Method} {c : Code} {Q : State → Prop} {D : va_G} {A : Nat → Prop} {h0 h1 h2 : Nat} {d0 d1 : ClassId} {n : Int32} {f : Nat → Int32} (S : CallFix p m c cX0_stands 6 s args lw_all RX0) (hA : ∀ q : Nat, s.heap.size ≤ q → A q) (hK : va_K D vwCl [(d0, .int), (d1, .int)] s) (K : ∀ (H : Heap) (locs : List Loc) (ls : Array Slot), va_P D vwCl [(h0, .inr (0, [.ref h1, .int n])), (h1, .inl (d0, 64, .inl f)), (h2, .inl (d1, 64, .inl f))] H → va_D A [(h0, .inr (0, [.ref h1, .int n])), (h1, .inl (d0, 64, .inl f)), (h2, .inl (d1, 64, .inl f))] → va_S A s.heap H locs → lv_has ls 6 [(0, .ref h0), (1, .ref h2), (2, .int n), (3, .long (ns_sum f 64))] → W p l e ({ frames := 1, cells := 0, slots := 0, locals := 23 } : Room) s m args below meth c H locs 0 0 Q (F0 m 77 ls [])) :
    ∀ (cnt i : Nat), i + cnt = 64 → ∀ (H : Heap) (locs : List Loc) (ls : Array Slot), va_P D vwCl [(h0, .inr (0, [.ref h1, .int n])), (h1, .inl (d0, 64, .inl f)), (h2, .inl (d1, 64, .inl f))] H → va_D A [(h0, .inr (0, [.ref h1, .int n])), (h1, .inl (d0, 64, .inl f)), (h2, .inl (d1, 64, .inl f))] → va_S A s.heap H locs → lv_has ls 6 [(0, .ref h0), (1, .ref h2), (2, .int n), (3, .long (ns_sum f i)), (5, .int (nI i))] → W p l e ({ frames := 1, cells := 0, slots := 0, locals := 23 } : Room) s m args below meth c H locs 0 0 Q (F0 m 5 ls []) := by
  obtain ⟨hx, hb, hml, hown, hts⟩ := id S
  intro cnt
  induction cnt with
  | zero =>
    intro i hi H locs ls hP hD hS hl
    have hi : i = 64 := by omega
    subst hi
    refine lv_iload hx hb dX0_stands_5 (lv_at hl 4 rfl) ?_
    refine lv_bipush (v := nI 64) hx hb dX0_stands_7 (by decide +kernel) ?_
    refine lv_icmp_ge (tgt := 77) hx hb dX0_stands_9 (by decide) (fun c_1 => ?_) (fun c_1 => ?_)
    · exact K H locs ls hP hD hS (lv_sub hl [0, 1, 2, 3] rfl)
    · exact absurd (nI_le (Nat.le_refl 64) (by decide)) c_1
  | succ cnt ih =>
    intro i hi H locs ls hP hD hS hl
    have hlt : i < 64 := by omega
    refine lv_iload hx hb dX0_stands_5 (lv_at hl 4 rfl) ?_
    refine lv_bipush (v := nI 64) hx hb dX0_stands_7 (by decide +kernel) ?_
    refine lv_icmp_ge (tgt := 77) hx hb dX0_stands_9 (by decide) (fun c_2 => ?_) (fun c_2 => ?_)
    · exact absurd c_2 (nI_ge hlt (by decide))
    · refine lv_lload_n hx hb dX0_stands_12 rfl (lv_at hl 3 rfl) ?_
      refine lv_ldc2 (v := 31) hx hb hown (hts _ q57) dX0_stands_13 ?_
      refine lv_lmul hx hb dX0_stands_16 ?_
      refine lv_aload_n hx hb dX0_stands_17 rfl (lv_at hl 1 rfl) ?_
      refine lv_iload hx hb dX0_stands_18 (lv_at hl 4 rfl) ?_
      refine ns_ald hx hb hK hP 2 1 rfl rfl (j := i) hlt (by decide) dX0_stands_20 ?_
      refine lv_i2l (v := ((f i).toInt64)) hx hb dX0_stands_21 rfl ?_
      refine lv_ladd hx hb dX0_stands_22 ?_
      refine ns_asl (ns_sum f (i + 1)) rfl ?_
      refine lv_lstore_n (lv' := [(3, .long (ns_sum f (i + 1))), (0, .ref h0), (1, .ref h2), (2, .int n), (5, .int (nI i))]) hx hb dX0_stands_23 rfl hl (by decide) rfl (fun ls hl => ?_)
      refine lv_aload_n hx hb dX0_stands_24 rfl (lv_at hl 1 rfl) ?_
      refine lv_iload hx hb dX0_stands_25 (lv_at hl 4 rfl) ?_
      have hPc := hP.sub (ws' := [(h0, .inr (0, [.ref h1, .int n])), (h1, .inl (d0, 64, .inl f))]) [0, 1] rfl
      have hDc := hD.sub (ws' := [(h0, .inr (0, [.ref h1, .int n])), (h1, .inl (d0, 64, .inl f))]) [0, 1] (by decide) rfl
      have hKc := hK.sub (tys' := [(d0, .int)]) [0] rfl
      have hFc := va_free (wc := [(h0, .inr (0, [.ref h1, .int n])), (h1, .inl (d0, 64, .inl f))]) hD hS hA [0, 1] rfl
      refine va_calli (va_runV (As := [.int (nI i)]) (rest := []) ⟨hx, hb, hml, hown, hts⟩ (met_get l D _ h0 h1 d0 n f (nI i)) (cwV 1 hts (lw_V q58 q59 q60 q1 q61) rfl rfl rfl (by decide +kernel) ⟨Nat.le_of_ble_eq_true rfl, Nat.le_of_ble_eq_true rfl⟩) ⟨ns_fb, va_recv hKc hPc (ci := 0) (q0 := 0) rfl rfl, ns_pr hPc hKc hDc⟩ rfl rfl hl.1 rfl (lv_room (Nat.le_of_ble_eq_true rfl)) dX0_stands_27 ⟨Nat.le_of_ble_eq_true rfl, Nat.le_of_ble_eq_true rfl⟩) hS (fun q _ h => hFc q h) hFc (fun r_3 ua ta H1 locs ht hvm hw hB hz1 hk1 hS => ?_)
      try dsimp only at hw
      obtain ⟨hP1, hK1, hD1⟩ := hB
      rw [ht] at hP1
      obtain ⟨hP, hD⟩ := va_join (wr := [(h2, .inl (d1, 64, .inl f))]) (w1 := [(h0, .inr (0, [.ref h1, .int n])), (h1, .inl (d0, 64, .inl f))]) hP hD [0, 1] [2] rfl rfl (by decide) (by decide) hk1 hFc hP1 hD1
      generalize H1 = H at hP hS ⊢
      have hP := hP.sub (ws' := [(h0, .inr (0, [.ref h1, .int n])), (h1, .inl (d0, 64, .inl f)), (h2, .inl (d1, 64, .inl f))]) [1, 2, 0] rfl
      have hD := hD.sub (ws' := [(h0, .inr (0, [.ref h1, .int n])), (h1, .inl (d0, 64, .inl f)), (h2, .inl (d1, 64, .inl f))]) [1, 2, 0] (by decide) rfl
      refine ns_as (f i) (by rw [hw, ns_at_n hlt]) ?_
      refine lv_aload_n hx hb dX0_stands_30 rfl (lv_at hl 2 rfl) ?_
      refine lv_iload hx hb dX0_stands_31 (lv_at hl 4 rfl) ?_
      refine ns_ald hx hb hK hP 2 1 rfl rfl (j := i) hlt (by decide) dX0_stands_33 ?_
      refine lv_icmp_ne (tgt := 69) hx hb dX0_stands_34 (by decide) (fun c_4 => ?_) (fun c_4 => ?_)
      · exact absurd rfl c_4
      · refine lv_aload_n hx hb dX0_stands_37 rfl (lv_at hl 1 rfl) ?_
        refine lv_iload hx hb dX0_stands_38 (lv_at hl 4 rfl) ?_
        refine lv_bipush (v := nI 64) hx hb dX0_stands_40 (by decide +kernel) ?_
        refine lv_isub hx hb dX0_stands_42 ?_
        have hPc := hP.sub (ws' := [(h0, .inr (0, [.ref h1, .int n])), (h1, .inl (d0, 64, .inl f))]) [0, 1] rfl
        have hDc := hD.sub (ws' := [(h0, .inr (0, [.ref h1, .int n])), (h1, .inl (d0, 64, .inl f))]) [0, 1] (by decide) rfl
        have hKc := hK.sub (tys' := [(d0, .int)]) [0] rfl
        have hFc := va_free (wc := [(h0, .inr (0, [.ref h1, .int n])), (h1, .inl (d0, 64, .inl f))]) hD hS hA [0, 1] rfl
        refine va_calli (va_runV (As := [.int ((nI i) - (nI 64))]) (rest := []) ⟨hx, hb, hml, hown, hts⟩ (met_get l D _ h0 h1 d0 n f (nI i - nI 64)) (cwV 1 hts (lw_V q58 q59 q60 q1 q61) rfl rfl rfl (by decide +kernel) ⟨Nat.le_of_ble_eq_true rfl, Nat.le_of_ble_eq_true rfl⟩) ⟨ns_fb, va_recv hKc hPc (ci := 0) (q0 := 0) rfl rfl, ns_pr hPc hKc hDc⟩ rfl rfl hl.1 rfl (lv_room (Nat.le_of_ble_eq_true rfl)) dX0_stands_43 ⟨Nat.le_of_ble_eq_true rfl, Nat.le_of_ble_eq_true rfl⟩) hS (fun q _ h => hFc q h) hFc (fun r_5 ua ta H1 locs ht hvm hw hB hz1 hk1 hS => ?_)
        try dsimp only at hw
        obtain ⟨hP1, hK1, hD1⟩ := hB
        rw [ht] at hP1
        obtain ⟨hP, hD⟩ := va_join (wr := [(h2, .inl (d1, 64, .inl f))]) (w1 := [(h0, .inr (0, [.ref h1, .int n])), (h1, .inl (d0, 64, .inl f))]) hP hD [0, 1] [2] rfl rfl (by decide) (by decide) hk1 hFc hP1 hD1
        generalize H1 = H at hP hS ⊢
        have hP := hP.sub (ws' := [(h0, .inr (0, [.ref h1, .int n])), (h1, .inl (d0, 64, .inl f)), (h2, .inl (d1, 64, .inl f))]) [1, 2, 0] rfl
        have hD := hD.sub (ws' := [(h0, .inr (0, [.ref h1, .int n])), (h1, .inl (d0, 64, .inl f)), (h2, .inl (d1, 64, .inl f))]) [1, 2, 0] (by decide) rfl
        refine ns_as (f i) (by rw [hw, ns_at_sub hlt]) ?_
        refine lv_aload_n hx hb dX0_stands_46 rfl (lv_at hl 2 rfl) ?_
        refine lv_iload hx hb dX0_stands_47 (lv_at hl 4 rfl) ?_
        refine ns_ald hx hb hK hP 2 1 rfl rfl (j := i) hlt (by decide) dX0_stands_49 ?_
        refine lv_icmp_ne (tgt := 69) hx hb dX0_stands_50 (by decide) (fun c_6 => ?_) (fun c_6 => ?_)
        · exact absurd rfl c_6
        · refine lv_aload_n hx hb dX0_stands_53 rfl (lv_at hl 1 rfl) ?_
          refine lv_iload hx hb dX0_stands_54 (lv_at hl 4 rfl) ?_
          refine lv_ldc (v := 2147483584) hx hb hown (hts _ q62) dX0_stands_56 ?_
          refine lv_iadd hx hb dX0_stands_58 ?_
          have hPc := hP.sub (ws' := [(h0, .inr (0, [.ref h1, .int n])), (h1, .inl (d0, 64, .inl f))]) [0, 1] rfl
          have hDc := hD.sub (ws' := [(h0, .inr (0, [.ref h1, .int n])), (h1, .inl (d0, 64, .inl f))]) [0, 1] (by decide) rfl
          have hKc := hK.sub (tys' := [(d0, .int)]) [0] rfl
          have hFc := va_free (wc := [(h0, .inr (0, [.ref h1, .int n])), (h1, .inl (d0, 64, .inl f))]) hD hS hA [0, 1] rfl
          refine va_calli (va_runV (As := [.int ((nI i) + 2147483584)]) (rest := []) ⟨hx, hb, hml, hown, hts⟩ (met_get l D _ h0 h1 d0 n f (nI i + 2147483584)) (cwV 1 hts (lw_V q58 q59 q60 q1 q61) rfl rfl rfl (by decide +kernel) ⟨Nat.le_of_ble_eq_true rfl, Nat.le_of_ble_eq_true rfl⟩) ⟨ns_fb, va_recv hKc hPc (ci := 0) (q0 := 0) rfl rfl, ns_pr hPc hKc hDc⟩ rfl rfl hl.1 rfl (lv_room (Nat.le_of_ble_eq_true rfl)) dX0_stands_59 ⟨Nat.le_of_ble_eq_true rfl, Nat.le_of_ble_eq_true rfl⟩) hS (fun q _ h => hFc q h) hFc (fun r_7 ua ta H1 locs ht hvm hw hB hz1 hk1 hS => ?_)
          try dsimp only at hw
          obtain ⟨hP1, hK1, hD1⟩ := hB
          rw [ht] at hP1
          obtain ⟨hP, hD⟩ := va_join (wr := [(h2, .inl (d1, 64, .inl f))]) (w1 := [(h0, .inr (0, [.ref h1, .int n])), (h1, .inl (d0, 64, .inl f))]) hP hD [0, 1] [2] rfl rfl (by decide) (by decide) hk1 hFc hP1 hD1
          generalize H1 = H at hP hS ⊢
          have hP := hP.sub (ws' := [(h0, .inr (0, [.ref h1, .int n])), (h1, .inl (d0, 64, .inl f)), (h2, .inl (d1, 64, .inl f))]) [1, 2, 0] rfl
          have hD := hD.sub (ws' := [(h0, .inr (0, [.ref h1, .int n])), (h1, .inl (d0, 64, .inl f)), (h2, .inl (d1, 64, .inl f))]) [1, 2, 0] (by decide) rfl
          refine ns_as (f i) (by rw [hw, ns_at_add hlt]) ?_
          refine lv_aload_n hx hb dX0_stands_62 rfl (lv_at hl 2 rfl) ?_
          refine lv_iload hx hb dX0_stands_63 (lv_at hl 4 rfl) ?_
          refine ns_ald hx hb hK hP 2 1 rfl rfl (j := i) hlt (by decide) dX0_stands_65 ?_
          refine lv_icmp_eq (tgt := 71) hx hb dX0_stands_66 (by decide) (fun c_8 => ?_) (fun c_8 => ?_)
          · refine lv_iinc (v := nI (i + 1)) (lv' := [(5, .int (nI (i + 1))), (3, .long (ns_sum f (i + 1))), (0, .ref h0), (1, .ref h2), (2, .int n)]) hx hb dX0_stands_71 hl (k := 4) rfl (ns_inc i) (by decide) rfl (fun ls hl => ?_)
            refine lv_goto (tgt := 5) hx hb dX0_stands_74 (by decide) ?_
            exact ih (i + 1) (by omega) H locs ls hP hD hS (lv_sub hl [2, 3, 4, 1, 0] rfl)
          · exact absurd rfl c_8
set_option maxHeartbeats 4000000 in
set_option maxRecDepth 100000 in
/-- stands(x, r, n) where x stands as r and n say: true -/
theorem met_stands (l : Launch) (D : va_G) (sz : Nat) (h0 h1 h2 : Nat) (d0 d1 : ClassId) (n : Int32) (f : Nat → Int32) : Met l yX0_stands (ws_ yX0_stands cX0_stands 6 (some .boolean)) ({ frames := 1, cells := 0, slots := 0, locals := 23 }) (ns_Pre D sz [(h0, .inr (0, [.ref h1, .int n])), (h1, .inl (d0, 64, .inl f)), (h2, .inl (d1, 64, .inl f))] [(d0, .int), (d1, .int)] [.ref h0, .ref h2, .int n]) (va_Qi (fun (r : Int32) (_ : Unit) => r = 1) (ns_B D [(d0, .int), (d1, .int)] (va_A [(h0, .inr (0, [.ref h1, .int n])), (h1, .inl (d0, 64, .inl f)), (h2, .inl (d1, 64, .inl f))] sz) [(h0, .inr (0, [.ref h1, .int n])), (h1, .inl (d0, 64, .inl f)), (h2, .inl (d1, 64, .inl f))]) (va_A [(h0, .inr (0, [.ref h1, .int n])), (h1, .inl (d0, 64, .inl f)), (h2, .inl (d1, 64, .inl f))] sz)) 0 0 (va_A [(h0, .inr (0, [.ref h1, .int n])), (h1, .inl (d0, 64, .inl f)), (h2, .inl (d1, 64, .inl f))] sz) := by
  refine Met.ofW (cc := cX0_stands) (maxL := 6) (ret := (some .boolean)) (by decide) rfl ?_
  intro p e s m args below meth c s₁ B hml hv
  obtain ⟨rfl, hsz, hP, hK, hD0⟩ := hv
  have hx := B.exec
  have hb := B.bytes
  have hr := B.returns
  have hts := atoms_spec (ws := ws_ yX0_stands cX0_stands 6 (some .boolean)) B.pre
  have hts : ∀ w ∈ lw_all, w.before _ s = true := fun w h => hts w (List.mem_cons_of_mem _ h)
  have hown : s.vm.findClass RX0 = some m.cls := findClass_of_methodNamed B.named
  have hlocks := B.notSynchronized
  subst hsz
  have hD := hD0.self (sz := s.heap.size)
  generalize hAe : va_A [(h0, .inr (0, [.ref h1, .int n])), (h1, .inl (d0, 64, .inl f)), (h2, .inl (d1, 64, .inl f))] s.heap.size = A at hD ⊢
  have hA : ∀ q : Nat, s.heap.size ≤ q → A q := fun q h => by rw [← hAe]; exact Or.inr h
  have hS : va_S A s.heap s.heap [] := va_S.rf
  have hP : va_P D vwCl [(h0, .inr (0, [.ref h1, .int n])), (h1, .inl (d0, 64, .inl f)), (h2, .inl (d1, 64, .inl f))] s.heap := hP
  have hl := lv_entry ([.ref h0, .ref h2, .int n]) (n := 6) (Nat.le_of_ble_eq_true rfl)
  rw [lg_entry_eq]
  generalize (lg_sl ([.ref h0, .ref h2, .int n]) ++ List.replicate (6 - (lg_sl ([.ref h0, .ref h2, .int n])).length) Slot.unset).toArray = ls at hl ⊢
  have hl : lv_has ls 6 [(0, .ref h0), (1, .ref h2), (2, .int n)] := hl
  refine lv_lconst (v := 0) hx hb dX0_stands_0 (by decide +kernel) ?_
  refine ns_asl (ns_sum f 0) rfl ?_
  refine lv_lstore_n (lv' := [(3, .long (ns_sum f 0)), (0, .ref h0), (1, .ref h2), (2, .int n)]) hx hb dX0_stands_1 rfl hl (by decide) rfl (fun ls hl => ?_)
  refine lv_iconst (v := nI 0) hx hb dX0_stands_2 (by decide +kernel) ?_
  refine lv_istore (lv' := [(5, .int (nI 0)), (3, .long (ns_sum f 0)), (0, .ref h0), (1, .ref h2), (2, .int n)]) hx hb dX0_stands_3 hl (by decide) rfl (fun ls hl => ?_)
  refine lp_stands (f := f) ⟨hx, hb, hml, hown, hts⟩ hA hK (fun H locs ls hP hD hS hl => ?_) 64 0 rfl s.heap [] ls hP hD hS (lv_sub hl [2, 3, 4, 1, 0] rfl)
  refine lv_aload_n hx hb dX0_stands_77 rfl (lv_at hl 0 rfl) ?_
  have hPc := hP.sub (ws' := [(h0, .inr (0, [.ref h1, .int n])), (h1, .inl (d0, 64, .inl f))]) [0, 1] rfl
  have hDc := hD.sub (ws' := [(h0, .inr (0, [.ref h1, .int n])), (h1, .inl (d0, 64, .inl f))]) [0, 1] (by decide) rfl
  have hKc := hK.sub (tys' := [(d0, .int)]) [0] rfl
  have hFc := va_free (wc := [(h0, .inr (0, [.ref h1, .int n])), (h1, .inl (d0, 64, .inl f))]) hD hS hA [0, 1] rfl
  refine va_calli (va_runV (As := []) (rest := []) ⟨hx, hb, hml, hown, hts⟩ (met_len l D _ h0 h1 d0 n f) (cwV 0 hts (lw_V q63 q64 q65 q1 q66) rfl rfl rfl (by decide +kernel) ⟨Nat.le_of_ble_eq_true rfl, Nat.le_of_ble_eq_true rfl⟩) ⟨ns_fb, va_recv hKc hPc (ci := 0) (q0 := 0) rfl rfl, ns_pr hPc hKc hDc⟩ rfl rfl hl.1 rfl (lv_room (Nat.le_of_ble_eq_true rfl)) dX0_stands_78 ⟨Nat.le_of_ble_eq_true rfl, Nat.le_of_ble_eq_true rfl⟩) hS (fun q _ h => hFc q h) hFc (fun r_1 ua ta H1 locs ht hvm hw hB hz1 hk1 hS => ?_)
  try dsimp only at hw
  obtain ⟨hP1, hK1, hD1⟩ := hB
  rw [ht] at hP1
  obtain ⟨hP, hD⟩ := va_join (wr := [(h2, .inl (d1, 64, .inl f))]) (w1 := [(h0, .inr (0, [.ref h1, .int n])), (h1, .inl (d0, 64, .inl f))]) hP hD [0, 1] [2] rfl rfl (by decide) (by decide) hk1 hFc hP1 hD1
  generalize H1 = H at hP hS ⊢
  have hP := hP.sub (ws' := [(h0, .inr (0, [.ref h1, .int n])), (h1, .inl (d0, 64, .inl f)), (h2, .inl (d1, 64, .inl f))]) [1, 2, 0] rfl
  have hD := hD.sub (ws' := [(h0, .inr (0, [.ref h1, .int n])), (h1, .inl (d0, 64, .inl f)), (h2, .inl (d1, 64, .inl f))]) [1, 2, 0] (by decide) rfl
  have hwn : r_1 = n := hw
  refine lv_iload_n hx hb dX0_stands_81 rfl (lv_at hl 2 rfl) ?_
  refine lv_icmp_ne (tgt := 98) hx hb dX0_stands_82 (by decide) (fun c_2 => ?_) (fun c_2 => ?_)
  · exact absurd hwn c_2
  · refine lv_aload_n hx hb dX0_stands_85 rfl (lv_at hl 0 rfl) ?_
    have hPc := hP.sub (ws' := [(h0, .inr (0, [.ref h1, .int n])), (h1, .inl (d0, 64, .inl f))]) [0, 1] rfl
    have hDc := hD.sub (ws' := [(h0, .inr (0, [.ref h1, .int n])), (h1, .inl (d0, 64, .inl f))]) [0, 1] (by decide) rfl
    have hKc := hK.sub (tys' := [(d0, .int)]) [0] rfl
    have hFc := va_free (wc := [(h0, .inr (0, [.ref h1, .int n])), (h1, .inl (d0, 64, .inl f))]) hD hS hA [0, 1] rfl
    refine va_calll (va_runV (As := []) (rest := []) ⟨hx, hb, hml, hown, hts⟩ (met_sum l D _ h0 h1 d0 n f) (cwV 0 hts (lw_V q67 q68 q69 q1 q70) rfl rfl rfl (by decide +kernel) ⟨Nat.le_of_ble_eq_true rfl, Nat.le_of_ble_eq_true rfl⟩) ⟨ns_fb, va_recv hKc hPc (ci := 0) (q0 := 0) rfl rfl, ns_pr hPc hKc hDc⟩ rfl rfl hl.1 rfl (lv_room (Nat.le_of_ble_eq_true rfl)) dX0_stands_86 ⟨Nat.le_of_ble_eq_true rfl, Nat.le_of_ble_eq_true rfl⟩) hS (fun q _ h => hFc q h) hFc (fun r_3 ua ta H1 locs ht hvm hw hB hz1 hk1 hS => ?_)
    try dsimp only at hw
    obtain ⟨hP1, hK1, hD1⟩ := hB
    rw [ht] at hP1
    obtain ⟨hP, hD⟩ := va_join (wr := [(h2, .inl (d1, 64, .inl f))]) (w1 := [(h0, .inr (0, [.ref h1, .int n])), (h1, .inl (d0, 64, .inl f))]) hP hD [0, 1] [2] rfl rfl (by decide) (by decide) hk1 hFc hP1 hD1
    generalize H1 = H at hP hS ⊢
    have hP := hP.sub (ws' := [(h0, .inr (0, [.ref h1, .int n])), (h1, .inl (d0, 64, .inl f)), (h2, .inl (d1, 64, .inl f))]) [1, 2, 0] rfl
    have hD := hD.sub (ws' := [(h0, .inr (0, [.ref h1, .int n])), (h1, .inl (d0, 64, .inl f)), (h2, .inl (d1, 64, .inl f))]) [1, 2, 0] (by decide) rfl
    refine ns_asl (ns_sum f 64) hw ?_
    refine lv_lload_n hx hb dX0_stands_89 rfl (lv_at hl 3 rfl) ?_
    refine W.lcmp hx hb dX0_stands_90 ?_
    refine ns_as 0 ((lg_cmp_eq _ _).mpr rfl) ?_
    refine lv_if_ne (tgt := 98) hx hb dX0_stands_91 (by decide) (fun c_4 => ?_) (fun c_4 => ?_)
    · exact absurd rfl c_4
    · refine lv_iconst (v := 1) hx hb dX0_stands_94 (by decide +kernel) ?_
      refine lv_goto (tgt := 99) hx hb dX0_stands_95 (by decide) ?_
      have hP9 := hP.sub (ws' := [(h0, .inr (0, [.ref h1, .int n])), (h1, .inl (d0, 64, .inl f)), (h2, .inl (d1, 64, .inl f))]) [0, 1, 2] rfl
      have hD9 := hD.sub (ws' := [(h0, .inr (0, [.ref h1, .int n])), (h1, .inl (d0, 64, .inl f)), (h2, .inl (d1, 64, .inl f))]) [0, 1, 2] (by decide) rfl
      exact W.zret (v := 1) hx hb hr rfl (fun t ht hW => ⟨⟨1, (), rfl, rfl, by rw [ht]; exact hP9, va_K.moved hW.alike hK, hD9⟩, hS.F ht⟩) hS.2.2 dX0_stands_99
end
section
/-! THE CLAIM OUT OF ONE WALK OF THE LAW'S BODY. Your part is whole_start (and what it stands on); all else here is the same for every law, but numbers. -/
def R_law : String := "NetworkSortLaw"
def lw_P (b : Addr) (xs : List Int32) (args : Array Value) (s : State) : Prop := args = #[.ref b] ∧ s.IntsAt b xs ∧ xs.length ≤ 96 ∧ (Jvm.Cond.and given_1 narrow_1).before args s = true
def lw_Q (_ : Array Value) (s : State) (o : Outcome) (t : State) : Prop := o = .returned (some (.int 1)) ∧ Framed s o t [] 600000 7290000
def lw_Z (below : List Frame) (a : Array Value) (s : State) : State → Prop := fun t => ∃ o, t.status = .running ∧ Ended t below o ∧ lw_Q a s o t
/-- the law's own end, with 1 on the stack, nothing written that was there before, its room as the claim has it -/
theorem lw_ret {p : Program} {l : Launch} {e : Env} {s : State} {m : MethodId} {below : List Frame} {meth : Method} {c : Code} {b : Nat} (hx : p.tables.exec = Jvm.exec) (hb : c.code = code) (hr : meth.sig.returnType = ret) (hlocks : meth.locks = false) {pc : Nat} {H : Heap} {ls : Array Slot} (hdg : decode code pc = .ok (.ireturn, 1)) : W p l e room_1 s m #[Value.ref b] below meth c H [] 600000 7290000 (lw_Z below #[Value.ref b] s) (F0 m pc ls [.int 1]) := by
  intro T hT X
  obtain ⟨fs, hret, hrun, hended, hW, hframe⟩ := X.leave (v := some (.int 1)) (hlocks := hlocks) (fun h => by rw [hr] at h; cases h)
  have hmeth' : T.vm.method? m = some meth := X.method'
  refine ⟨T.setFrames fs, ?_, .returned (some (.int 1)), hrun, hended, rfl, ⟨_, rfl⟩, hW, hframe⟩
  jvm_step X.here [X.here.top, hx, hb, hdg, hmeth', hr, ret, narrow_b1]
  (try refine ⟨rfl, ?_⟩); (try refine ⟨rfl, ?_⟩)
  first | (intro acts; rw [hret _ acts rfl rfl rfl]) | rw [hret _ _ rfl rfl rfl]
  exact Steps.refl _
/-- what holds at the law's entry: the machine, the code, the tables' words (any of lw_tbl by 'hts w (by decide +kernel)'), the script of L ints xs at the cell b, what the Statement gives of the start (any of its parts by flat_of_before) -/
def lw_At (p : Program) (s : State) (m : MethodId) (meth : Method) (c : Code) (b L : Nat) (xs : Nat → Int32) : Prop :=
  p.tables.exec = Jvm.exec ∧ c.code = code ∧ meth.sig.returnType = ret ∧ c.maxLocals = 8 ∧ s.vm.findClass R_law = some m.cls ∧ (∀ w ∈ lw_tbl, w.before #[Value.ref b] s = true) ∧ va_X b L xs s s.heap ∧ b < s.heap.size ∧ meth.locks = false ∧ (Jvm.Cond.and given_1 narrow_1).before #[Value.ref b] s = true
/-- what the law may write: what it makes -/
abbrev ns_A (s : State) : Nat → Prop := fun q => s.heap.size ≤ q
set_option maxHeartbeats 4000000 in
set_option maxRecDepth 100000 in
/-- the first 64 ints of the script go into the rows -/
theorem lw_fst {p : Program} {l : Launch} {e : Env} {s : State} {m : MethodId} {below : List Frame} {meth : Method} {c : Code} {D : va_G} {b L : Nat} {xs : Nat → Int32} {h0 h1 h2 : Nat} {d0 d1 : ClassId} (hL : L ≤ 96) (C0 : lw_At p s m meth c b L xs) (hK : va_K D vwCl [(d0, .int), (d1, .int)] s) (K : ∀ f : Nat → Int32, ns_bd f → ∀ (H : Heap) (locs : List Loc) (ls : Array Slot), va_P D vwCl [(h0, .inr (0, [.ref h1, .int (nI 64)])), (h1, .inl (d0, 64, .inl f)), (h2, .inl (d1, 64, .inl f))] H → va_D (ns_A s) [(h0, .inr (0, [.ref h1, .int (nI 64)])), (h1, .inl (d0, 64, .inl f)), (h2, .inl (d1, 64, .inl f))] → va_S (ns_A s) s.heap H locs → lv_has ls 8 [(0, .ref b), (1, .ref h0), (2, .ref h2), (3, .int (nI 64))] → W p l e room_1 s m #[Value.ref b] below meth c H locs 3 130 (lw_Z below #[Value.ref b] s) (F0 m 72 ls [])) :
    ∀ (cnt i : Nat) (f : Nat → Int32), i + cnt = 64 → ns_bd f → ∀ (H : Heap) (locs : List Loc) (ls : Array Slot), va_P D vwCl [(h0, .inr (0, [.ref h1, .int (nI 64)])), (h1, .inl (d0, 64, .inl f)), (h2, .inl (d1, 64, .inl f))] H → va_D (ns_A s) [(h0, .inr (0, [.ref h1, .int (nI 64)])), (h1, .inl (d0, 64, .inl f)), (h2, .inl (d1, 64, .inl f))] → va_S (ns_A s) s.heap H locs → lv_has ls 8 [(0, .ref b), (1, .ref h0), (2, .ref h2), (3, .int (nI 64)), (4, .int (nI i))] → W p l e room_1 s m #[Value.ref b] below meth c H locs 3 130 (lw_Z below #[Value.ref b] s) (F0 m 30 ls []) := by
  obtain ⟨hx, hb, hr, hml, hown, hts0, hX, hbl, hlocks, hgv⟩ := id C0
  have hts : ∀ w ∈ lw_all, w.before #[Value.ref b] s = true := fun w h => hts0 w (lw_all_tbl h)
  have hA : ∀ q : Nat, s.heap.size ≤ q → ns_A s q := fun _ h => h
  have hbA : ¬ ns_A s b := Nat.not_le.mpr hbl
  intro cnt
  induction cnt with
  | zero =>
    intro i f hi hf H locs ls hP hD hS hl
    have hi : i = 64 := by omega
    subst hi
    refine lv_iload hx hb dL_law_30 (lv_at hl 4 rfl) ?_
    refine lv_bipush (v := nI 64) hx hb dL_law_32 (by decide +kernel) ?_
    refine lv_icmp_ge (tgt := 72) hx hb dL_law_34 (by decide) (fun c_1 => ?_) (fun c_1 => ?_)
    · exact K f hf H locs ls hP hD hS (lv_sub hl [0, 1, 2, 3] rfl)
    · exact absurd (nI_le (Nat.le_refl 64) (by decide)) c_1
  | succ cnt ih =>
    intro i f hi hf H locs ls hP hD hS hl
    have hlt : i < 64 := by omega
    refine lv_iload hx hb dL_law_30 (lv_at hl 4 rfl) ?_
    refine lv_bipush (v := nI 64) hx hb dL_law_32 (by decide +kernel) ?_
    refine lv_icmp_ge (tgt := 72) hx hb dL_law_34 (by decide) (fun c_2 => ?_) (fun c_2 => ?_)
    · exact absurd c_2 (nI_ge hlt (by decide))
    · refine lv_aload_n hx hb dL_law_37 rfl (lv_at hl 1 rfl) ?_
      refine lv_iload hx hb dL_law_38 (lv_at hl 4 rfl) ?_
      refine lv_sipush (v := nI 128) hx hb dL_law_40 (by decide +kernel) ?_
      refine lv_isub hx hb dL_law_43 ?_
      refine lv_aload_n hx hb dL_law_44 rfl (lv_at hl 0 rfl) ?_
      refine lv_iload hx hb dL_law_45 (lv_at hl 4 rfl) ?_
      have hPc := hP.sub (ws' := []) [] rfl
      have hDc := hD.sub (ws' := []) [] (by decide) rfl
      have hKc := hK.sub (tys' := []) [] rfl
      have hFc := va_free (wc := []) hD hS hA [] rfl
      refine va_calli (va_runS (As := [.ref b, .int (nI i)]) (rest := [.int ((nI i) - (nI 128)), .ref h0]) ⟨hx, hb, hml, hown, hts⟩ (met_cell l D _ b L xs i hL (by omega)) (va_cwS 2 hts (lw_S q44 q45 q0 q46) rfl rfl rfl (by decide +kernel) ⟨Nat.le_of_ble_eq_true rfl, Nat.le_of_ble_eq_true rfl⟩) ⟨ns_fbX, ns_prX hPc hKc hDc (hX.kept (hS.2.1 b hbl hbA))⟩ rfl rfl hl.1 rfl (lv_room (Nat.le_of_ble_eq_true rfl)) dL_law_47 ⟨Nat.le_of_ble_eq_true rfl, Nat.le_of_ble_eq_true rfl⟩) hS (fun q _ h => hFc q h) hFc (fun r_3 ua ta H1 locs ht hvm hw hB hz1 hk1 hS => ?_)
      try dsimp only at hw
      obtain ⟨hP1, hK1, hD1⟩ := hB
      rw [ht] at hP1
      obtain ⟨hP, hD⟩ := va_join (wr := [(h0, .inr (0, [.ref h1, .int (nI 64)])), (h1, .inl (d0, 64, .inl f)), (h2, .inl (d1, 64, .inl f))]) (w1 := []) hP hD [] [0, 1, 2] rfl rfl (by decide) (by decide) hk1 hFc hP1 hD1
      generalize H1 = H at hP hS ⊢
      have hP := hP.sub (ws' := [(h0, .inr (0, [.ref h1, .int (nI 64)])), (h1, .inl (d0, 64, .inl f)), (h2, .inl (d1, 64, .inl f))]) [0, 1, 2] rfl
      have hD := hD.sub (ws' := [(h0, .inr (0, [.ref h1, .int (nI 64)])), (h1, .inl (d0, 64, .inl f)), (h2, .inl (d1, 64, .inl f))]) [0, 1, 2] (by decide) rfl
      refine ns_as (if i < L then xs i else 0) hw ?_
      refine lv_topi (fun v ev => ?_)
      have hPc := hP.sub (ws' := [(h0, .inr (0, [.ref h1, .int (nI 64)])), (h1, .inl (d0, 64, .inl f))]) [0, 1] rfl
      have hDc := hD.sub (ws' := [(h0, .inr (0, [.ref h1, .int (nI 64)])), (h1, .inl (d0, 64, .inl f))]) [0, 1] (by decide) rfl
      have hKc := hK.sub (tys' := [(d0, .int)]) [0] rfl
      have hFc := va_free (wc := [(h0, .inr (0, [.ref h1, .int (nI 64)])), (h1, .inl (d0, 64, .inl f))]) hD hS hA [0, 1] rfl
      refine va_callv (va_runV (As := [.int ((nI i) - (nI 128)), .int v]) (rest := []) ⟨hx, hb, hml, hown, hts⟩ (met_set l D _ h0 h1 d0 (nI 64) f (nI i - nI 128) v) (cwV 2 hts (lw_V q19 q20 q21 q1 q22) rfl rfl rfl (by decide +kernel) ⟨Nat.le_of_ble_eq_true rfl, Nat.le_of_ble_eq_true rfl⟩) ⟨ns_fb, va_recv hKc hPc (ci := 0) (q0 := 0) rfl rfl, ns_pr hPc hKc hDc⟩ rfl rfl hl.1 rfl (lv_room (Nat.le_of_ble_eq_true rfl)) dL_law_50 ⟨Nat.le_of_ble_eq_true rfl, Nat.le_of_ble_eq_true rfl⟩) hS (fun q _ h => hFc q h) hFc (fun ua ta H1 locs ht hvm hw hB hz1 hk1 hS => ?_)
      obtain ⟨hP1, hK1, hD1⟩ := hB
      rw [ht] at hP1
      obtain ⟨hP, hD⟩ := va_join (wr := [(h2, .inl (d1, 64, .inl f))]) (w1 := [(h0, .inr (0, [.ref h1, .int (nI 64)])), (h1, .inl (d0, 64, .inl (upd f (ns_at (nI i - nI 128)) (v &&& 1073741823))))]) hP hD [0, 1] [2] rfl rfl (by decide) (by decide) hk1 hFc hP1 hD1
      generalize H1 = H at hP hS ⊢
      have hP := hP.sub (ws' := [(h0, .inr (0, [.ref h1, .int (nI 64)])), (h1, .inl (d0, 64, .inl (upd f (ns_at (nI i - nI 128)) (v &&& 1073741823)))), (h2, .inl (d1, 64, .inl f))]) [1, 2, 0] rfl
      have hD := hD.sub (ws' := [(h0, .inr (0, [.ref h1, .int (nI 64)])), (h1, .inl (d0, 64, .inl (upd f (ns_at (nI i - nI 128)) (v &&& 1073741823)))), (h2, .inl (d1, 64, .inl f))]) [1, 2, 0] (by decide) rfl
      have hP : va_P D vwCl [(h0, .inr (0, [.ref h1, .int (nI 64)])), (h1, .inl (d0, 64, .inl (upd f i (v &&& 1073741823)))), (h2, .inl (d1, 64, .inl f))] H := by rw [ns_at_sub2 hlt] at hP; exact hP
      have hD : va_D (ns_A s) [(h0, .inr (0, [.ref h1, .int (nI 64)])), (h1, .inl (d0, 64, .inl (upd f i (v &&& 1073741823)))), (h2, .inl (d1, 64, .inl f))] := by rw [ns_at_sub2 hlt] at hD; exact hD
      refine lv_aload_n hx hb dL_law_53 rfl (lv_at hl 2 rfl) ?_
      refine lv_iload hx hb dL_law_54 (lv_at hl 4 rfl) ?_
      refine lv_aload_n hx hb dL_law_56 rfl (lv_at hl 0 rfl) ?_
      refine lv_iload hx hb dL_law_57 (lv_at hl 4 rfl) ?_
      have hPc := hP.sub (ws' := []) [] rfl
      have hDc := hD.sub (ws' := []) [] (by decide) rfl
      have hKc := hK.sub (tys' := []) [] rfl
      have hFc := va_free (wc := []) hD hS hA [] rfl
      refine va_calli (va_runS (As := [.ref b, .int (nI i)]) (rest := [.int (nI i), .ref h2]) ⟨hx, hb, hml, hown, hts⟩ (met_cell l D _ b L xs i hL (by omega)) (va_cwS 2 hts (lw_S q44 q45 q0 q46) rfl rfl rfl (by decide +kernel) ⟨Nat.le_of_ble_eq_true rfl, Nat.le_of_ble_eq_true rfl⟩) ⟨ns_fbX, ns_prX hPc hKc hDc (hX.kept (hS.2.1 b hbl hbA))⟩ rfl rfl hl.1 rfl (lv_room (Nat.le_of_ble_eq_true rfl)) dL_law_59 ⟨Nat.le_of_ble_eq_true rfl, Nat.le_of_ble_eq_true rfl⟩) hS (fun q _ h => hFc q h) hFc (fun r_4 ua ta H1 locs ht hvm hw hB hz1 hk1 hS => ?_)
      try dsimp only at hw
      obtain ⟨hP1, hK1, hD1⟩ := hB
      rw [ht] at hP1
      obtain ⟨hP, hD⟩ := va_join (wr := [(h0, .inr (0, [.ref h1, .int (nI 64)])), (h1, .inl (d0, 64, .inl (upd f i (v &&& 1073741823)))), (h2, .inl (d1, 64, .inl f))]) (w1 := []) hP hD [] [0, 1, 2] rfl rfl (by decide) (by decide) hk1 hFc hP1 hD1
      generalize H1 = H at hP hS ⊢
      have hP := hP.sub (ws' := [(h0, .inr (0, [.ref h1, .int (nI 64)])), (h1, .inl (d0, 64, .inl (upd f i (v &&& 1073741823)))), (h2, .inl (d1, 64, .inl f))]) [0, 1, 2] rfl
      have hD := hD.sub (ws' := [(h0, .inr (0, [.ref h1, .int (nI 64)])), (h1, .inl (d0, 64, .inl (upd f i (v &&& 1073741823)))), (h2, .inl (d1, 64, .inl f))]) [0, 1, 2] (by decide) rfl
      refine ns_as v (by rw [hw, ev]) ?_
      have hPc := hP.sub (ws' := []) [] rfl
      have hDc := hD.sub (ws' := []) [] (by decide) rfl
      have hKc := hK.sub (tys' := []) [] rfl
      have hFc := va_free (wc := []) hD hS hA [] rfl
      refine va_calli (va_runS (As := [.int v]) (rest := [.int (nI i), .ref h2]) ⟨hx, hb, hml, hown, hts⟩ (met_cut l D _ v) (va_cwS 1 hts (lw_S q47 q48 q0 q49) rfl rfl rfl (by decide +kernel) ⟨Nat.le_of_ble_eq_true rfl, Nat.le_of_ble_eq_true rfl⟩) ⟨ns_fb, ns_pr hPc hKc hDc⟩ rfl rfl hl.1 rfl (lv_room (Nat.le_of_ble_eq_true rfl)) dL_law_62 ⟨Nat.le_of_ble_eq_true rfl, Nat.le_of_ble_eq_true rfl⟩) hS (fun q _ h => hFc q h) hFc (fun r_5 ua ta H1 locs ht hvm hw hB hz1 hk1 hS => ?_)
      try dsimp only at hw
      obtain ⟨hP1, hK1, hD1⟩ := hB
      rw [ht] at hP1
      obtain ⟨hP, hD⟩ := va_join (wr := [(h0, .inr (0, [.ref h1, .int (nI 64)])), (h1, .inl (d0, 64, .inl (upd f i (v &&& 1073741823)))), (h2, .inl (d1, 64, .inl f))]) (w1 := []) hP hD [] [0, 1, 2] rfl rfl (by decide) (by decide) hk1 hFc hP1 hD1
      generalize H1 = H at hP hS ⊢
      have hP := hP.sub (ws' := [(h0, .inr (0, [.ref h1, .int (nI 64)])), (h1, .inl (d0, 64, .inl (upd f i (v &&& 1073741823)))), (h2, .inl (d1, 64, .inl f))]) [0, 1, 2] rfl
      have hD := hD.sub (ws' := [(h0, .inr (0, [.ref h1, .int (nI 64)])), (h1, .inl (d0, 64, .inl (upd f i (v &&& 1073741823)))), (h2, .inl (d1, 64, .inl f))]) [0, 1, 2] (by decide) rfl
      refine ns_as (v &&& 1073741823) hw ?_
      refine ns_ast hx hb hK hP hD hS 2 1 rfl rfl (j := i) hlt (by decide) dL_law_65 (fun H locs hP hD hS => ?_)
      have hP : va_P D vwCl [(h0, .inr (0, [.ref h1, .int (nI 64)])), (h1, .inl (d0, 64, .inl (upd f i (v &&& 1073741823)))), (h2, .inl (d1, 64, .inl (upd f i (v &&& 1073741823))))] H := hP
      have hD : va_D (ns_A s) [(h0, .inr (0, [.ref h1, .int (nI 64)])), (h1, .inl (d0, 64, .inl (upd f i (v &&& 1073741823)))), (h2, .inl (d1, 64, .inl (upd f i (v &&& 1073741823))))] := hD
      refine lv_iinc (v := nI (i + 1)) (lv' := [(4, .int (nI (i + 1))), (0, .ref b), (1, .ref h0), (2, .ref h2), (3, .int (nI 64))]) hx hb dL_law_66 hl (k := 4) rfl (ns_inc i) (by decide) rfl (fun ls hl => ?_)
      refine lv_goto (tgt := 30) hx hb dL_law_69 (by decide) ?_
      exact ih (i + 1) (upd f i (v &&& 1073741823)) (by omega) (ns_bd_upd hf (ns_cut_bd v)) H locs ls hP hD hS (lv_sub hl [1, 2, 3, 4, 0] rfl)
set_option maxHeartbeats 4000000 in
set_option maxRecDepth 100000 in
/-- the filling of the law's own row -/
theorem lw_fil {p : Program} {l : Launch} {e : Env} {s : State} {m : MethodId} {below : List Frame} {meth : Method} {c : Code} {D : va_G} {b L : Nat} {xs : Nat → Int32} {h0 h1 h2 : Nat} {d0 d1 : ClassId} (hL : L ≤ 96) (C0 : lw_At p s m meth c b L xs) (hK : va_K D vwCl [(d0, .int), (d1, .int)] s) {n k : Nat} {u v : Int32} {f : Nat → Int32} (K : ∀ (H : Heap) (locs : List Loc) (ls : Array Slot), va_P D vwCl [(h0, .inr (0, [.ref h1, .int (nI n)])), (h1, .inl (d0, 64, .inl (ns_fil f (u >>> (nI 3 &&& 31)) v 64))), (h2, .inl (d1, 64, .inl (ns_fil f (u >>> (nI 3 &&& 31)) v 64)))] H → va_D (ns_A s) [(h0, .inr (0, [.ref h1, .int (nI n)])), (h1, .inl (d0, 64, .inl (ns_fil f (u >>> (nI 3 &&& 31)) v 64))), (h2, .inl (d1, 64, .inl (ns_fil f (u >>> (nI 3 &&& 31)) v 64)))] → va_S (ns_A s) s.heap H locs → lv_has ls 8 [(0, .ref b), (1, .ref h0), (2, .ref h2), (3, .int (nI n)), (4, .int (nI k))] → W p l e room_1 s m #[Value.ref b] below meth c H locs 3 130 (lw_Z below #[Value.ref b] s) (F0 m 242 ls [])) :
    ∀ (cnt i : Nat), i + cnt = 64 → ∀ (H : Heap) (locs : List Loc) (ls : Array Slot), va_P D vwCl [(h0, .inr (0, [.ref h1, .int (nI n)])), (h1, .inl (d0, 64, .inl (ns_fil f (u >>> (nI 3 &&& 31)) v 64))), (h2, .inl (d1, 64, .inl (ns_fil f (u >>> (nI 3 &&& 31)) v i)))] H → va_D (ns_A s) [(h0, .inr (0, [.ref h1, .int (nI n)])), (h1, .inl (d0, 64, .inl (ns_fil f (u >>> (nI 3 &&& 31)) v 64))), (h2, .inl (d1, 64, .inl (ns_fil f (u >>> (nI 3 &&& 31)) v i)))] → va_S (ns_A s) s.heap H locs → lv_has ls 8 [(0, .ref b), (1, .ref h0), (2, .ref h2), (3, .int (nI n)), (4, .int (nI k)), (5, .int u), (6, .int v), (7, .int (nI i))] → W p l e room_1 s m #[Value.ref b] below meth c H locs 3 130 (lw_Z below #[Value.ref b] s) (F0 m 212 ls []) := by
  obtain ⟨hx, hb, hr, hml, hown, hts0, hX, hbl, hlocks, hgv⟩ := id C0
  have hts : ∀ w ∈ lw_all, w.before #[Value.ref b] s = true := fun w h => hts0 w (lw_all_tbl h)
  have hA : ∀ q : Nat, s.heap.size ≤ q → ns_A s q := fun _ h => h
  have hbA : ¬ ns_A s b := Nat.not_le.mpr hbl
  intro cnt
  induction cnt with
  | zero =>
    intro i hi H locs ls hP hD hS hl
    have hi : i = 64 := by omega
    subst hi
    refine lv_iload hx hb dL_law_212 (lv_at hl 7 rfl) ?_
    refine lv_bipush (v := nI 64) hx hb dL_law_214 (by decide +kernel) ?_
    refine lv_icmp_ge (tgt := 242) hx hb dL_law_216 (by decide) (fun c_1 => ?_) (fun c_1 => ?_)
    · exact K H locs ls hP hD hS (lv_sub hl [0, 1, 2, 3, 4] rfl)
    · exact absurd (nI_le (Nat.le_refl 64) (by decide)) c_1
  | succ cnt ih =>
    intro i hi H locs ls hP hD hS hl
    have hlt : i < 64 := by omega
    refine lv_iload hx hb dL_law_212 (lv_at hl 7 rfl) ?_
    refine lv_bipush (v := nI 64) hx hb dL_law_214 (by decide +kernel) ?_
    refine lv_icmp_ge (tgt := 242) hx hb dL_law_216 (by decide) (fun c_2 => ?_) (fun c_2 => ?_)
    · exact absurd c_2 (nI_ge hlt (by decide))
    · refine lv_aload_n hx hb dL_law_219 rfl (lv_at hl 2 rfl) ?_
      refine lv_iload hx hb dL_law_220 (lv_at hl 7 rfl) ?_
      refine lv_iload hx hb dL_law_222 (lv_at hl 5 rfl) ?_
      refine lv_iconst (v := nI 3) hx hb dL_law_224 (by decide +kernel) ?_
      refine lv_ishr hx hb dL_law_225 ?_
      refine lv_iload hx hb dL_law_226 (lv_at hl 6 rfl) ?_
      refine lv_iload hx hb dL_law_228 (lv_at hl 7 rfl) ?_
      refine lv_imul hx hb dL_law_230 ?_
      refine lv_iadd hx hb dL_law_231 ?_
      refine ns_as ((u >>> (nI 3 &&& 31)) + v * nI i) rfl ?_
      have hPc := hP.sub (ws' := []) [] rfl
      have hDc := hD.sub (ws' := []) [] (by decide) rfl
      have hKc := hK.sub (tys' := []) [] rfl
      have hFc := va_free (wc := []) hD hS hA [] rfl
      refine va_calli (va_runS (As := [.int ((u >>> (nI 3 &&& 31)) + v * nI i)]) (rest := [.int (nI i), .ref h2]) ⟨hx, hb, hml, hown, hts⟩ (met_cut l D _ ((u >>> (nI 3 &&& 31)) + v * nI i)) (va_cwS 1 hts (lw_S q47 q48 q0 q49) rfl rfl rfl (by decide +kernel) ⟨Nat.le_of_ble_eq_true rfl, Nat.le_of_ble_eq_true rfl⟩) ⟨ns_fb, ns_pr hPc hKc hDc⟩ rfl rfl hl.1 rfl (lv_room (Nat.le_of_ble_eq_true rfl)) dL_law_232 ⟨Nat.le_of_ble_eq_true rfl, Nat.le_of_ble_eq_true rfl⟩) hS (fun q _ h => hFc q h) hFc (fun r_3 ua ta H1 locs ht hvm hw hB hz1 hk1 hS => ?_)
      try dsimp only at hw
      obtain ⟨hP1, hK1, hD1⟩ := hB
      rw [ht] at hP1
      obtain ⟨hP, hD⟩ := va_join (wr := [(h0, .inr (0, [.ref h1, .int (nI n)])), (h1, .inl (d0, 64, .inl (ns_fil f (u >>> (nI 3 &&& 31)) v 64))), (h2, .inl (d1, 64, .inl (ns_fil f (u >>> (nI 3 &&& 31)) v i)))]) (w1 := []) hP hD [] [0, 1, 2] rfl rfl (by decide) (by decide) hk1 hFc hP1 hD1
      generalize H1 = H at hP hS ⊢
      have hP := hP.sub (ws' := [(h0, .inr (0, [.ref h1, .int (nI n)])), (h1, .inl (d0, 64, .inl (ns_fil f (u >>> (nI 3 &&& 31)) v 64))), (h2, .inl (d1, 64, .inl (ns_fil f (u >>> (nI 3 &&& 31)) v i)))]) [0, 1, 2] rfl
      have hD := hD.sub (ws' := [(h0, .inr (0, [.ref h1, .int (nI n)])), (h1, .inl (d0, 64, .inl (ns_fil f (u >>> (nI 3 &&& 31)) v 64))), (h2, .inl (d1, 64, .inl (ns_fil f (u >>> (nI 3 &&& 31)) v i)))]) [0, 1, 2] (by decide) rfl
      refine ns_as (((u >>> (nI 3 &&& 31)) + v * nI i) &&& 1073741823) hw ?_
      refine ns_ast hx hb hK hP hD hS 2 1 rfl rfl (j := i) hlt (by decide) dL_law_235 (fun H locs hP hD hS => ?_)
      have hP : va_P D vwCl [(h0, .inr (0, [.ref h1, .int (nI n)])), (h1, .inl (d0, 64, .inl (ns_fil f (u >>> (nI 3 &&& 31)) v 64))), (h2, .inl (d1, 64, .inl (upd (ns_fil f (u >>> (nI 3 &&& 31)) v i) i (((u >>> (nI 3 &&& 31)) + v * nI i) &&& 1073741823))))] H := hP
      have hD : va_D (ns_A s) [(h0, .inr (0, [.ref h1, .int (nI n)])), (h1, .inl (d0, 64, .inl (ns_fil f (u >>> (nI 3 &&& 31)) v 64))), (h2, .inl (d1, 64, .inl (upd (ns_fil f (u >>> (nI 3 &&& 31)) v i) i (((u >>> (nI 3 &&& 31)) + v * nI i) &&& 1073741823))))] := hD
      have hP : va_P D vwCl [(h0, .inr (0, [.ref h1, .int (nI n)])), (h1, .inl (d0, 64, .inl (ns_fil f (u >>> (nI 3 &&& 31)) v 64))), (h2, .inl (d1, 64, .inl (ns_fil f (u >>> (nI 3 &&& 31)) v (i + 1))))] H := by rw [ns_fil_s] at hP; exact hP
      have hD : va_D (ns_A s) [(h0, .inr (0, [.ref h1, .int (nI n)])), (h1, .inl (d0, 64, .inl (ns_fil f (u >>> (nI 3 &&& 31)) v 64))), (h2, .inl (d1, 64, .inl (ns_fil f (u >>> (nI 3 &&& 31)) v (i + 1))))] := by rw [ns_fil_s] at hD; exact hD
      refine lv_iinc (v := nI (i + 1)) (lv' := [(7, .int (nI (i + 1))), (0, .ref b), (1, .ref h0), (2, .ref h2), (3, .int (nI n)), (4, .int (nI k)), (5, .int u), (6, .int v)]) hx hb dL_law_236 hl (k := 7) rfl (ns_inc i) (by decide) rfl (fun ls hl => ?_)
      refine lv_goto (tgt := 212) hx hb dL_law_239 (by decide) ?_
      exact ih (i + 1) (by omega) H locs ls hP hD hS (lv_sub hl [1, 2, 3, 4, 5, 6, 7, 0] rfl)
set_option maxHeartbeats 4000000 in
set_option maxRecDepth 100000 in
/-- the sixteen calls -/
theorem lw_calls {p : Program} {l : Launch} {e : Env} {s : State} {m : MethodId} {below : List Frame} {meth : Method} {c : Code} {D : va_G} {b L : Nat} {xs : Nat → Int32} {h0 h1 h2 : Nat} {d0 d1 : ClassId} (hL : L ≤ 96) (C0 : lw_At p s m meth c b L xs) (hK : va_K D vwCl [(d0, .int), (d1, .int)] s) (K : ∀ (n : Nat) (f : Nat → Int32), 2 ≤ n → n ≤ 64 → ns_bd f → ∀ (H : Heap) (locs : List Loc) (ls : Array Slot), va_P D vwCl [(h0, .inr (0, [.ref h1, .int (nI n)])), (h1, .inl (d0, 64, .inl f)), (h2, .inl (d1, 64, .inl f))] H → va_D (ns_A s) [(h0, .inr (0, [.ref h1, .int (nI n)])), (h1, .inl (d0, 64, .inl f)), (h2, .inl (d1, 64, .inl f))] → va_S (ns_A s) s.heap H locs → lv_has ls 8 [(0, .ref b), (1, .ref h0), (2, .ref h2), (3, .int (nI n))] → W p l e room_1 s m #[Value.ref b] below meth c H locs 3 130 (lw_Z below #[Value.ref b] s) (F0 m 327 ls [])) :
    ∀ (cnt k n : Nat) (f : Nat → Int32), k + 2 * cnt = 96 → 2 ≤ n → n ≤ 64 → ns_bd f → ∀ (H : Heap) (locs : List Loc) (ls : Array Slot), va_P D vwCl [(h0, .inr (0, [.ref h1, .int (nI n)])), (h1, .inl (d0, 64, .inl f)), (h2, .inl (d1, 64, .inl f))] H → va_D (ns_A s) [(h0, .inr (0, [.ref h1, .int (nI n)])), (h1, .inl (d0, 64, .inl f)), (h2, .inl (d1, 64, .inl f))] → va_S (ns_A s) s.heap H locs → lv_has ls 8 [(0, .ref b), (1, .ref h0), (2, .ref h2), (3, .int (nI n)), (4, .int (nI k))] → W p l e room_1 s m #[Value.ref b] below meth c H locs 3 130 (lw_Z below #[Value.ref b] s) (F0 m 87 ls []) := by
  obtain ⟨hx, hb, hr, hml, hown, hts0, hX, hbl, hlocks, hgv⟩ := id C0
  have hts : ∀ w ∈ lw_all, w.before #[Value.ref b] s = true := fun w h => hts0 w (lw_all_tbl h)
  have hA : ∀ q : Nat, s.heap.size ≤ q → ns_A s q := fun _ h => h
  have hbA : ¬ ns_A s b := Nat.not_le.mpr hbl
  intro cnt
  induction cnt with
  | zero =>
    intro k n f hk h2n hn hf H locs ls hP hD hS hl
    have hk : k = 96 := by omega
    subst hk
    refine lv_iload hx hb dL_law_87 (lv_at hl 4 rfl) ?_
    refine lv_bipush (v := nI 96) hx hb dL_law_89 (by decide +kernel) ?_
    refine lv_icmp_ge (tgt := 327) hx hb dL_law_91 (by decide) (fun c_1 => ?_) (fun c_1 => ?_)
    · exact K n f h2n hn hf H locs ls hP hD hS (lv_sub hl [0, 1, 2, 3] rfl)
    · exact absurd (nI_le (Nat.le_refl 96) (by decide)) c_1
  | succ cnt ih =>
    intro k n f hk h2n hn hf H locs ls hP hD hS hl
    have hlt : k < 96 := by omega
    have tail : ∀ (n' : Nat) (f' : Nat → Int32), 2 ≤ n' → n' ≤ 64 → ns_bd f' → ∀ (H : Heap) (locs : List Loc) (ls : Array Slot), va_P D vwCl [(h0, .inr (0, [.ref h1, .int (nI n')])), (h1, .inl (d0, 64, .inl f')), (h2, .inl (d1, 64, .inl f'))] H → va_D (ns_A s) [(h0, .inr (0, [.ref h1, .int (nI n')])), (h1, .inl (d0, 64, .inl f')), (h2, .inl (d1, 64, .inl f'))] → va_S (ns_A s) s.heap H locs → lv_has ls 8 [(0, .ref b), (1, .ref h0), (2, .ref h2), (3, .int (nI n')), (4, .int (nI k))] → W p l e room_1 s m #[Value.ref b] below meth c H locs 3 130 (lw_Z below #[Value.ref b] s) (F0 m 310 ls []) := by
      intro n' f' h2n hn hf H locs ls hP hD hS hl
      refine lv_aload_n hx hb dL_law_310 rfl (lv_at hl 1 rfl) ?_
      refine lv_aload_n hx hb dL_law_311 rfl (lv_at hl 2 rfl) ?_
      refine lv_iload_n hx hb dL_law_312 rfl (lv_at hl 3 rfl) ?_
      have hPc := hP.sub (ws' := [(h0, .inr (0, [.ref h1, .int (nI n')])), (h1, .inl (d0, 64, .inl f')), (h2, .inl (d1, 64, .inl f'))]) [0, 1, 2] rfl
      have hDc := hD.sub (ws' := [(h0, .inr (0, [.ref h1, .int (nI n')])), (h1, .inl (d0, 64, .inl f')), (h2, .inl (d1, 64, .inl f'))]) [0, 1, 2] (by decide) rfl
      have hKc := hK.sub (tys' := [(d0, .int), (d1, .int)]) [0, 1] rfl
      have hFc := va_free (wc := [(h0, .inr (0, [.ref h1, .int (nI n')])), (h1, .inl (d0, 64, .inl f')), (h2, .inl (d1, 64, .inl f'))]) hD hS hA [0, 1, 2] rfl
      refine va_calli (va_runS (As := [.ref h0, .ref h2, .int (nI n')]) (rest := []) ⟨hx, hb, hml, hown, hts⟩ (met_stands l D _ h0 h1 h2 d0 d1 (nI n') f') (va_cwS 3 hts (lw_S q54 q55 q0 q56) rfl rfl rfl (by decide +kernel) ⟨Nat.le_of_ble_eq_true rfl, Nat.le_of_ble_eq_true rfl⟩) ⟨ns_fb, ns_pr hPc hKc hDc⟩ rfl rfl hl.1 rfl (lv_room (Nat.le_of_ble_eq_true rfl)) dL_law_313 ⟨Nat.le_of_ble_eq_true rfl, Nat.le_of_ble_eq_true rfl⟩) hS (fun q _ h => hFc q h) hFc (fun r_2 ua ta H1 locs ht hvm hw hB hz1 hk1 hS => ?_)
      try dsimp only at hw
      obtain ⟨hP1, hK1, hD1⟩ := hB
      rw [ht] at hP1
      obtain ⟨hP, hD⟩ := va_join (wr := []) (w1 := [(h0, .inr (0, [.ref h1, .int (nI n')])), (h1, .inl (d0, 64, .inl f')), (h2, .inl (d1, 64, .inl f'))]) hP hD [0, 1, 2] [] rfl rfl (by decide) (by decide) hk1 hFc hP1 hD1
      generalize H1 = H at hP hS ⊢
      have hP := hP.sub (ws' := [(h0, .inr (0, [.ref h1, .int (nI n')])), (h1, .inl (d0, 64, .inl f')), (h2, .inl (d1, 64, .inl f'))]) [0, 1, 2] rfl
      have hD := hD.sub (ws' := [(h0, .inr (0, [.ref h1, .int (nI n')])), (h1, .inl (d0, 64, .inl f')), (h2, .inl (d1, 64, .inl f'))]) [0, 1, 2] (by decide) rfl
      refine ns_as 1 hw ?_
      refine lv_if_ne (tgt := 321) hx hb dL_law_316 (by decide) (fun c_3 => ?_) (fun c_3 => ?_)
      · refine lv_iinc (v := nI (k + 2)) (lv' := [(4, .int (nI (k + 2))), (0, .ref b), (1, .ref h0), (2, .ref h2), (3, .int (nI n'))]) hx hb dL_law_321 hl (k := 4) rfl (ns_inc2 k) (by decide) rfl (fun ls hl => ?_)
        refine lv_goto (tgt := 87) hx hb dL_law_324 (by decide) ?_
        exact ih (k + 2) n' f' (by omega) h2n hn hf H locs ls hP hD hS (lv_sub hl [1, 2, 3, 4, 0] rfl)
      · exact absurd c_3 (by decide +kernel)
    refine lv_iload hx hb dL_law_87 (lv_at hl 4 rfl) ?_
    refine lv_bipush (v := nI 96) hx hb dL_law_89 (by decide +kernel) ?_
    refine lv_icmp_ge (tgt := 327) hx hb dL_law_91 (by decide) (fun c_4 => ?_) (fun c_4 => ?_)
    · exact absurd c_4 (nI_ge hlt (by decide))
    · refine lv_aload_n hx hb dL_law_94 rfl (lv_at hl 0 rfl) ?_
      refine lv_iload hx hb dL_law_95 (lv_at hl 4 rfl) ?_
      have hPc := hP.sub (ws' := []) [] rfl
      have hDc := hD.sub (ws' := []) [] (by decide) rfl
      have hKc := hK.sub (tys' := []) [] rfl
      have hFc := va_free (wc := []) hD hS hA [] rfl
      refine va_calli (va_runS (As := [.ref b, .int (nI k)]) (rest := []) ⟨hx, hb, hml, hown, hts⟩ (met_cell l D _ b L xs k hL (by omega)) (va_cwS 2 hts (lw_S q44 q45 q0 q46) rfl rfl rfl (by decide +kernel) ⟨Nat.le_of_ble_eq_true rfl, Nat.le_of_ble_eq_true rfl⟩) ⟨ns_fbX, ns_prX hPc hKc hDc (hX.kept (hS.2.1 b hbl hbA))⟩ rfl rfl hl.1 rfl (lv_room (Nat.le_of_ble_eq_true rfl)) dL_law_97 ⟨Nat.le_of_ble_eq_true rfl, Nat.le_of_ble_eq_true rfl⟩) hS (fun q _ h => hFc q h) hFc (fun r_5 ua ta H1 locs ht hvm hw hB hz1 hk1 hS => ?_)
      try dsimp only at hw
      obtain ⟨hP1, hK1, hD1⟩ := hB
      rw [ht] at hP1
      obtain ⟨hP, hD⟩ := va_join (wr := [(h0, .inr (0, [.ref h1, .int (nI n)])), (h1, .inl (d0, 64, .inl f)), (h2, .inl (d1, 64, .inl f))]) (w1 := []) hP hD [] [0, 1, 2] rfl rfl (by decide) (by decide) hk1 hFc hP1 hD1
      generalize H1 = H at hP hS ⊢
      have hP := hP.sub (ws' := [(h0, .inr (0, [.ref h1, .int (nI n)])), (h1, .inl (d0, 64, .inl f)), (h2, .inl (d1, 64, .inl f))]) [0, 1, 2] rfl
      have hD := hD.sub (ws' := [(h0, .inr (0, [.ref h1, .int (nI n)])), (h1, .inl (d0, 64, .inl f)), (h2, .inl (d1, 64, .inl f))]) [0, 1, 2] (by decide) rfl
      refine lv_topi (fun u eu => ?_)
      refine lv_istore (lv' := [(5, .int u), (0, .ref b), (1, .ref h0), (2, .ref h2), (3, .int (nI n)), (4, .int (nI k))]) hx hb dL_law_100 hl (by decide) rfl (fun ls hl => ?_)
      refine lv_aload_n hx hb dL_law_102 rfl (lv_at hl 1 rfl) ?_
      refine lv_iload hx hb dL_law_103 (lv_at hl 5 rfl) ?_
      refine lv_iconst (v := nI 1) hx hb dL_law_105 (by decide +kernel) ?_
      refine lv_iadd hx hb dL_law_106 ?_
      refine ns_as (nI (k + 1)) (nI_add k 1) ?_
      have hPc := hP.sub (ws' := []) [] rfl
      have hDc := hD.sub (ws' := []) [] (by decide) rfl
      have hKc := hK.sub (tys' := []) [] rfl
      have hFc := va_free (wc := []) hD hS hA [] rfl
      refine va_calli (va_runS (As := [.ref b, .int (nI (k + 1))]) (rest := []) ⟨hx, hb, hml, hown, hts⟩ (met_cell l D _ b L xs (k + 1) hL (by omega)) (va_cwS 2 hts (lw_S q44 q45 q0 q46) rfl rfl rfl (by decide +kernel) ⟨Nat.le_of_ble_eq_true rfl, Nat.le_of_ble_eq_true rfl⟩) ⟨ns_fbX, ns_prX hPc hKc hDc (hX.kept (hS.2.1 b hbl hbA))⟩ rfl rfl hl.1 rfl (lv_room (Nat.le_of_ble_eq_true rfl)) dL_law_107 ⟨Nat.le_of_ble_eq_true rfl, Nat.le_of_ble_eq_true rfl⟩) hS (fun q _ h => hFc q h) hFc (fun r_6 ua ta H1 locs ht hvm hw hB hz1 hk1 hS => ?_)
      try dsimp only at hw
      obtain ⟨hP1, hK1, hD1⟩ := hB
      rw [ht] at hP1
      obtain ⟨hP, hD⟩ := va_join (wr := [(h0, .inr (0, [.ref h1, .int (nI n)])), (h1, .inl (d0, 64, .inl f)), (h2, .inl (d1, 64, .inl f))]) (w1 := []) hP hD [] [0, 1, 2] rfl rfl (by decide) (by decide) hk1 hFc hP1 hD1
      generalize H1 = H at hP hS ⊢
      have hP := hP.sub (ws' := [(h0, .inr (0, [.ref h1, .int (nI n)])), (h1, .inl (d0, 64, .inl f)), (h2, .inl (d1, 64, .inl f))]) [0, 1, 2] rfl
      have hD := hD.sub (ws' := [(h0, .inr (0, [.ref h1, .int (nI n)])), (h1, .inl (d0, 64, .inl f)), (h2, .inl (d1, 64, .inl f))]) [0, 1, 2] (by decide) rfl
      refine lv_topi (fun v ev => ?_)
      refine lv_istore (lv' := [(6, .int v), (5, .int u), (0, .ref b), (1, .ref h0), (2, .ref h2), (3, .int (nI n)), (4, .int (nI k))]) hx hb dL_law_110 hl (by decide) rfl (fun ls hl => ?_)
      refine lv_iload hx hb dL_law_112 (lv_at hl 1 rfl) ?_
      refine lv_bipush (v := nI 7) hx hb dL_law_114 (by decide +kernel) ?_
      refine lv_iand hx hb dL_law_116 ?_
      obtain ⟨j, hj, ej⟩ := pk_andE u (m := nI 7) 3 (by decide +kernel)
      refine ns_as (nI j) ej ?_
      have hl : lv_has ls 8 [(0, .ref b), (1, .ref h0), (2, .ref h2), (3, .int (nI n)), (4, .int (nI k)), (5, .int u), (6, .int v)] := (lv_sub hl [2, 3, 4, 5, 6, 1, 0] rfl)
      by_cases hj3 : j < 3
      · refine lv_tableOut (tgt := 301) hx hb dL_law_117 (Or.inl (by rw [nI_toInt (by omega)]; omega)) (by decide) ?_
        refine lv_aload_n hx hb dL_law_301 rfl (lv_at hl 1 rfl) ?_
        have hPc := hP.sub (ws' := [(h0, .inr (0, [.ref h1, .int (nI n)])), (h1, .inl (d0, 64, .inl f))]) [0, 1] rfl
        have hDc := hD.sub (ws' := [(h0, .inr (0, [.ref h1, .int (nI n)])), (h1, .inl (d0, 64, .inl f))]) [0, 1] (by decide) rfl
        have hKc := hK.sub (tys' := [(d0, .int)]) [0] rfl
        have hFc := va_free (wc := [(h0, .inr (0, [.ref h1, .int (nI n)])), (h1, .inl (d0, 64, .inl f))]) hD hS hA [0, 1] rfl
        refine va_callv (va_runV (As := []) (rest := []) ⟨hx, hb, hml, hown, hts⟩ (met_sort l D _ h0 h1 d0 n f h2n hn hf) (cwV 0 hts (lw_V q33 q34 q35 q1 q36) rfl rfl rfl (by decide +kernel) ⟨Nat.le_of_ble_eq_true rfl, Nat.le_of_ble_eq_true rfl⟩) ⟨ns_fb, va_recv hKc hPc (ci := 0) (q0 := 0) rfl rfl, ns_pr hPc hKc hDc⟩ rfl rfl hl.1 rfl (lv_room (Nat.le_of_ble_eq_true rfl)) dL_law_302 ⟨Nat.le_of_ble_eq_true rfl, Nat.le_of_ble_eq_true rfl⟩) hS (fun q _ h => hFc q h) hFc (fun ua ta H1 locs ht hvm hw hB hz1 hk1 hS => ?_)
        obtain ⟨hP1, hK1, hD1⟩ := hB
        rw [ht] at hP1
        obtain ⟨hP, hD⟩ := va_join (wr := [(h2, .inl (d1, 64, .inl f))]) (w1 := [(h0, .inr (0, [.ref h1, .int (nI n)])), (h1, .inl (d0, 64, .inl (ns_srt f (n - 1))))]) hP hD [0, 1] [2] rfl rfl (by decide) (by decide) hk1 hFc hP1 hD1
        generalize H1 = H at hP hS ⊢
        have hP := hP.sub (ws' := [(h0, .inr (0, [.ref h1, .int (nI n)])), (h1, .inl (d0, 64, .inl (ns_srt f (n - 1)))), (h2, .inl (d1, 64, .inl f))]) [1, 2, 0] rfl
        have hD := hD.sub (ws' := [(h0, .inr (0, [.ref h1, .int (nI n)])), (h1, .inl (d0, 64, .inl (ns_srt f (n - 1)))), (h2, .inl (d1, 64, .inl f))]) [1, 2, 0] (by decide) rfl
        refine lv_aload_n hx hb dL_law_305 rfl (lv_at hl 2 rfl) ?_
        refine lv_iload_n hx hb dL_law_306 rfl (lv_at hl 3 rfl) ?_
        have hPc := hP.sub (ws' := [(h2, .inl (d1, 64, .inl f))]) [2] rfl
        have hDc := hD.sub (ws' := [(h2, .inl (d1, 64, .inl f))]) [2] (by decide) rfl
        have hKc := hK.sub (tys' := [(d1, .int)]) [1] rfl
        have hFc := va_free (wc := [(h2, .inl (d1, 64, .inl f))]) hD hS hA [2] rfl
        refine va_callv (va_runS (As := [.ref h2, .int (nI n)]) (rest := []) ⟨hx, hb, hml, hown, hts⟩ (met_plainly l D _ h2 d1 f n h2n hn) (va_cwS 2 hts (lw_S q51 q52 q0 q53) rfl rfl rfl (by decide +kernel) ⟨Nat.le_of_ble_eq_true rfl, Nat.le_of_ble_eq_true rfl⟩) ⟨ns_fb, ns_pr hPc hKc hDc⟩ rfl rfl hl.1 rfl (lv_room (Nat.le_of_ble_eq_true rfl)) dL_law_307 ⟨Nat.le_of_ble_eq_true rfl, Nat.le_of_ble_eq_true rfl⟩) hS (fun q _ h => hFc q h) hFc (fun ua ta H1 locs ht hvm hw hB hz1 hk1 hS => ?_)
        obtain ⟨hP1, hK1, hD1⟩ := hB
        rw [ht] at hP1
        obtain ⟨hP, hD⟩ := va_join (wr := [(h0, .inr (0, [.ref h1, .int (nI n)])), (h1, .inl (d0, 64, .inl (ns_srt f (n - 1))))]) (w1 := [(h2, .inl (d1, 64, .inl (ns_srt f (n - 1))))]) hP hD [2] [0, 1] rfl rfl (by decide) (by decide) hk1 hFc hP1 hD1
        generalize H1 = H at hP hS ⊢
        have hP := hP.sub (ws' := [(h0, .inr (0, [.ref h1, .int (nI n)])), (h1, .inl (d0, 64, .inl (ns_srt f (n - 1)))), (h2, .inl (d1, 64, .inl (ns_srt f (n - 1))))]) [0, 1, 2] rfl
        have hD := hD.sub (ws' := [(h0, .inr (0, [.ref h1, .int (nI n)])), (h1, .inl (d0, 64, .inl (ns_srt f (n - 1)))), (h2, .inl (d1, 64, .inl (ns_srt f (n - 1))))]) [0, 1, 2] (by decide) rfl
        exact tail n (ns_srt f (n - 1)) h2n hn (ns_bd_srt hf _) H locs ls hP hD hS (lv_sub hl [0, 1, 2, 3, 4] rfl)
      · rcases (show j = 3 ∨ j = 4 ∨ j = 5 ∨ j = 6 ∨ j = 7 by omega) with rfl | rfl | rfl | rfl | rfl
        · refine lv_tableIn (off := 35) (tgt := 152) hx hb dL_law_117 (by decide +kernel) (by decide +kernel) (by decide +kernel) (by decide) ?_
          refine lv_aload_n hx hb dL_law_152 rfl (lv_at hl 1 rfl) ?_
          refine lv_iload hx hb dL_law_153 (lv_at hl 6 rfl) ?_
          have hPc := hP.sub (ws' := [(h0, .inr (0, [.ref h1, .int (nI n)])), (h1, .inl (d0, 64, .inl f))]) [0, 1] rfl
          have hDc := hD.sub (ws' := [(h0, .inr (0, [.ref h1, .int (nI n)])), (h1, .inl (d0, 64, .inl f))]) [0, 1] (by decide) rfl
          have hKc := hK.sub (tys' := [(d0, .int)]) [0] rfl
          have hFc := va_free (wc := [(h0, .inr (0, [.ref h1, .int (nI n)])), (h1, .inl (d0, 64, .inl f))]) hD hS hA [0, 1] rfl
          refine va_callv (va_runV (As := [.int v]) (rest := []) ⟨hx, hb, hml, hown, hts⟩ (met_length l D _ h0 h1 d0 (nI n) f v) (cwV 1 hts (lw_V q28 q29 q30 q1 q31) rfl rfl rfl (by decide +kernel) ⟨Nat.le_of_ble_eq_true rfl, Nat.le_of_ble_eq_true rfl⟩) ⟨ns_fb, va_recv hKc hPc (ci := 0) (q0 := 0) rfl rfl, ns_pr hPc hKc hDc⟩ rfl rfl hl.1 rfl (lv_room (Nat.le_of_ble_eq_true rfl)) dL_law_155 ⟨Nat.le_of_ble_eq_true rfl, Nat.le_of_ble_eq_true rfl⟩) hS (fun q _ h => hFc q h) hFc (fun ua ta H1 locs ht hvm hw hB hz1 hk1 hS => ?_)
          obtain ⟨hP1, hK1, hD1⟩ := hB
          rw [ht] at hP1
          obtain ⟨hP, hD⟩ := va_join (wr := [(h2, .inl (d1, 64, .inl f))]) (w1 := [(h0, .inr (0, [.ref h1, .int (nI (ns_len v))])), (h1, .inl (d0, 64, .inl f))]) hP hD [0, 1] [2] rfl rfl (by decide) (by decide) hk1 hFc hP1 hD1
          generalize H1 = H at hP hS ⊢
          have hP := hP.sub (ws' := [(h0, .inr (0, [.ref h1, .int (nI (ns_len v))])), (h1, .inl (d0, 64, .inl f)), (h2, .inl (d1, 64, .inl f))]) [1, 2, 0] rfl
          have hD := hD.sub (ws' := [(h0, .inr (0, [.ref h1, .int (nI (ns_len v))])), (h1, .inl (d0, 64, .inl f)), (h2, .inl (d1, 64, .inl f))]) [1, 2, 0] (by decide) rfl
          refine lv_iconst (v := nI 2) hx hb dL_law_158 (by decide +kernel) ?_
          refine lv_iload hx hb dL_law_159 (lv_at hl 6 rfl) ?_
          refine lv_ldc (v := 2147483647) hx hb hown (hts _ q72) dL_law_161 ?_
          refine lv_iand hx hb dL_law_163 ?_
          refine lv_bipush (v := nI 63) hx hb dL_law_164 (by decide +kernel) ?_
          refine lv_irem hx hb dL_law_166 (by decide +kernel) ?_
          refine lv_iadd hx hb dL_law_167 ?_
          refine ns_as (nI (ns_len v)) (ns_len_eq v) ?_
          refine lv_istore_n (lv' := [(3, .int (nI (ns_len v))), (0, .ref b), (1, .ref h0), (2, .ref h2), (4, .int (nI k)), (5, .int u), (6, .int v)]) hx hb dL_law_168 rfl hl (by decide) rfl (fun ls hl => ?_)
          refine lv_goto (tgt := 310) hx hb dL_law_169 (by decide) ?_
          exact tail (ns_len v) f ((ns_len_in v).1) ((ns_len_in v).2) hf H locs ls hP hD hS (lv_sub hl [1, 2, 3, 0, 4] rfl)
        · refine lv_tableIn (off := 55) (tgt := 172) hx hb dL_law_117 (by decide +kernel) (by decide +kernel) (by decide +kernel) (by decide) ?_
          refine lv_aload_n hx hb dL_law_172 rfl (lv_at hl 1 rfl) ?_
          refine lv_iload hx hb dL_law_173 (lv_at hl 5 rfl) ?_
          refine lv_iconst (v := nI 3) hx hb dL_law_175 (by decide +kernel) ?_
          refine lv_ishr hx hb dL_law_176 ?_
          refine lv_iload hx hb dL_law_177 (lv_at hl 6 rfl) ?_
          have hPc := hP.sub (ws' := [(h0, .inr (0, [.ref h1, .int (nI n)])), (h1, .inl (d0, 64, .inl f))]) [0, 1] rfl
          have hDc := hD.sub (ws' := [(h0, .inr (0, [.ref h1, .int (nI n)])), (h1, .inl (d0, 64, .inl f))]) [0, 1] (by decide) rfl
          have hKc := hK.sub (tys' := [(d0, .int)]) [0] rfl
          have hFc := va_free (wc := [(h0, .inr (0, [.ref h1, .int (nI n)])), (h1, .inl (d0, 64, .inl f))]) hD hS hA [0, 1] rfl
          refine va_callv (va_runV (As := [.int (u >>> ((nI 3) &&& 31)), .int v]) (rest := []) ⟨hx, hb, hml, hown, hts⟩ (met_set l D _ h0 h1 d0 (nI n) f (u >>> (nI 3 &&& 31)) v) (cwV 2 hts (lw_V q19 q20 q21 q1 q22) rfl rfl rfl (by decide +kernel) ⟨Nat.le_of_ble_eq_true rfl, Nat.le_of_ble_eq_true rfl⟩) ⟨ns_fb, va_recv hKc hPc (ci := 0) (q0 := 0) rfl rfl, ns_pr hPc hKc hDc⟩ rfl rfl hl.1 rfl (lv_room (Nat.le_of_ble_eq_true rfl)) dL_law_179 ⟨Nat.le_of_ble_eq_true rfl, Nat.le_of_ble_eq_true rfl⟩) hS (fun q _ h => hFc q h) hFc (fun ua ta H1 locs ht hvm hw hB hz1 hk1 hS => ?_)
          obtain ⟨hP1, hK1, hD1⟩ := hB
          rw [ht] at hP1
          obtain ⟨hP, hD⟩ := va_join (wr := [(h2, .inl (d1, 64, .inl f))]) (w1 := [(h0, .inr (0, [.ref h1, .int (nI n)])), (h1, .inl (d0, 64, .inl (upd f (ns_at (u >>> (nI 3 &&& 31))) (v &&& 1073741823))))]) hP hD [0, 1] [2] rfl rfl (by decide) (by decide) hk1 hFc hP1 hD1
          generalize H1 = H at hP hS ⊢
          have hP := hP.sub (ws' := [(h0, .inr (0, [.ref h1, .int (nI n)])), (h1, .inl (d0, 64, .inl (upd f (ns_at (u >>> (nI 3 &&& 31))) (v &&& 1073741823)))), (h2, .inl (d1, 64, .inl f))]) [1, 2, 0] rfl
          have hD := hD.sub (ws' := [(h0, .inr (0, [.ref h1, .int (nI n)])), (h1, .inl (d0, 64, .inl (upd f (ns_at (u >>> (nI 3 &&& 31))) (v &&& 1073741823)))), (h2, .inl (d1, 64, .inl f))]) [1, 2, 0] (by decide) rfl
          refine lv_aload_n hx hb dL_law_182 rfl (lv_at hl 2 rfl) ?_
          refine lv_iload hx hb dL_law_183 (lv_at hl 5 rfl) ?_
          refine lv_iconst (v := nI 3) hx hb dL_law_185 (by decide +kernel) ?_
          refine lv_ishr hx hb dL_law_186 ?_
          refine lv_bipush (v := nI 63) hx hb dL_law_187 (by decide +kernel) ?_
          refine lv_iand hx hb dL_law_189 ?_
          refine ns_as (nI (ns_at (u >>> (nI 3 &&& 31)))) (ns_at_eq _) ?_
          refine lv_iload hx hb dL_law_190 (lv_at hl 6 rfl) ?_
          have hPc := hP.sub (ws' := []) [] rfl
          have hDc := hD.sub (ws' := []) [] (by decide) rfl
          have hKc := hK.sub (tys' := []) [] rfl
          have hFc := va_free (wc := []) hD hS hA [] rfl
          refine va_calli (va_runS (As := [.int v]) (rest := [.int (nI (ns_at (u >>> (nI 3 &&& 31)))), .ref h2]) ⟨hx, hb, hml, hown, hts⟩ (met_cut l D _ v) (va_cwS 1 hts (lw_S q47 q48 q0 q49) rfl rfl rfl (by decide +kernel) ⟨Nat.le_of_ble_eq_true rfl, Nat.le_of_ble_eq_true rfl⟩) ⟨ns_fb, ns_pr hPc hKc hDc⟩ rfl rfl hl.1 rfl (lv_room (Nat.le_of_ble_eq_true rfl)) dL_law_192 ⟨Nat.le_of_ble_eq_true rfl, Nat.le_of_ble_eq_true rfl⟩) hS (fun q _ h => hFc q h) hFc (fun r_7 ua ta H1 locs ht hvm hw hB hz1 hk1 hS => ?_)
          try dsimp only at hw
          obtain ⟨hP1, hK1, hD1⟩ := hB
          rw [ht] at hP1
          obtain ⟨hP, hD⟩ := va_join (wr := [(h0, .inr (0, [.ref h1, .int (nI n)])), (h1, .inl (d0, 64, .inl (upd f (ns_at (u >>> (nI 3 &&& 31))) (v &&& 1073741823)))), (h2, .inl (d1, 64, .inl f))]) (w1 := []) hP hD [] [0, 1, 2] rfl rfl (by decide) (by decide) hk1 hFc hP1 hD1
          generalize H1 = H at hP hS ⊢
          have hP := hP.sub (ws' := [(h0, .inr (0, [.ref h1, .int (nI n)])), (h1, .inl (d0, 64, .inl (upd f (ns_at (u >>> (nI 3 &&& 31))) (v &&& 1073741823)))), (h2, .inl (d1, 64, .inl f))]) [0, 1, 2] rfl
          have hD := hD.sub (ws' := [(h0, .inr (0, [.ref h1, .int (nI n)])), (h1, .inl (d0, 64, .inl (upd f (ns_at (u >>> (nI 3 &&& 31))) (v &&& 1073741823)))), (h2, .inl (d1, 64, .inl f))]) [0, 1, 2] (by decide) rfl
          refine ns_as (v &&& 1073741823) hw ?_
          refine ns_ast hx hb hK hP hD hS 2 1 rfl rfl (j := (ns_at (u >>> (nI 3 &&& 31)))) (ns_at_lt _) (by decide) dL_law_195 (fun H locs hP hD hS => ?_)
          have hP : va_P D vwCl [(h0, .inr (0, [.ref h1, .int (nI n)])), (h1, .inl (d0, 64, .inl (upd f (ns_at (u >>> (nI 3 &&& 31))) (v &&& 1073741823)))), (h2, .inl (d1, 64, .inl (upd f (ns_at (u >>> (nI 3 &&& 31))) (v &&& 1073741823))))] H := hP
          have hD : va_D (ns_A s) [(h0, .inr (0, [.ref h1, .int (nI n)])), (h1, .inl (d0, 64, .inl (upd f (ns_at (u >>> (nI 3 &&& 31))) (v &&& 1073741823)))), (h2, .inl (d1, 64, .inl (upd f (ns_at (u >>> (nI 3 &&& 31))) (v &&& 1073741823))))] := hD
          refine lv_goto (tgt := 310) hx hb dL_law_196 (by decide) ?_
          exact tail n (upd f (ns_at (u >>> (nI 3 &&& 31))) (v &&& 1073741823)) h2n hn (ns_bd_upd hf (ns_cut_bd _)) H locs ls hP hD hS (lv_sub hl [0, 1, 2, 3, 4] rfl)
        · refine lv_tableIn (off := 82) (tgt := 199) hx hb dL_law_117 (by decide +kernel) (by decide +kernel) (by decide +kernel) (by decide) ?_
          refine lv_aload_n hx hb dL_law_199 rfl (lv_at hl 1 rfl) ?_
          refine lv_iload hx hb dL_law_200 (lv_at hl 5 rfl) ?_
          refine lv_iconst (v := nI 3) hx hb dL_law_202 (by decide +kernel) ?_
          refine lv_ishr hx hb dL_law_203 ?_
          refine lv_iload hx hb dL_law_204 (lv_at hl 6 rfl) ?_
          have hPc := hP.sub (ws' := [(h0, .inr (0, [.ref h1, .int (nI n)])), (h1, .inl (d0, 64, .inl f))]) [0, 1] rfl
          have hDc := hD.sub (ws' := [(h0, .inr (0, [.ref h1, .int (nI n)])), (h1, .inl (d0, 64, .inl f))]) [0, 1] (by decide) rfl
          have hKc := hK.sub (tys' := [(d0, .int)]) [0] rfl
          have hFc := va_free (wc := [(h0, .inr (0, [.ref h1, .int (nI n)])), (h1, .inl (d0, 64, .inl f))]) hD hS hA [0, 1] rfl
          refine va_callv (va_runV (As := [.int (u >>> ((nI 3) &&& 31)), .int v]) (rest := []) ⟨hx, hb, hml, hown, hts⟩ (met_fill l D _ h0 h1 d0 (nI n) f (u >>> (nI 3 &&& 31)) v) (cwV 2 hts (lw_V q24 q25 q26 q1 q27) rfl rfl rfl (by decide +kernel) ⟨Nat.le_of_ble_eq_true rfl, Nat.le_of_ble_eq_true rfl⟩) ⟨ns_fb, va_recv hKc hPc (ci := 0) (q0 := 0) rfl rfl, ns_pr hPc hKc hDc⟩ rfl rfl hl.1 rfl (lv_room (Nat.le_of_ble_eq_true rfl)) dL_law_206 ⟨Nat.le_of_ble_eq_true rfl, Nat.le_of_ble_eq_true rfl⟩) hS (fun q _ h => hFc q h) hFc (fun ua ta H1 locs ht hvm hw hB hz1 hk1 hS => ?_)
          obtain ⟨hP1, hK1, hD1⟩ := hB
          rw [ht] at hP1
          obtain ⟨hP, hD⟩ := va_join (wr := [(h2, .inl (d1, 64, .inl f))]) (w1 := [(h0, .inr (0, [.ref h1, .int (nI n)])), (h1, .inl (d0, 64, .inl (ns_fil f (u >>> (nI 3 &&& 31)) v 64)))]) hP hD [0, 1] [2] rfl rfl (by decide) (by decide) hk1 hFc hP1 hD1
          generalize H1 = H at hP hS ⊢
          have hP := hP.sub (ws' := [(h0, .inr (0, [.ref h1, .int (nI n)])), (h1, .inl (d0, 64, .inl (ns_fil f (u >>> (nI 3 &&& 31)) v 64))), (h2, .inl (d1, 64, .inl f))]) [1, 2, 0] rfl
          have hD := hD.sub (ws' := [(h0, .inr (0, [.ref h1, .int (nI n)])), (h1, .inl (d0, 64, .inl (ns_fil f (u >>> (nI 3 &&& 31)) v 64))), (h2, .inl (d1, 64, .inl f))]) [1, 2, 0] (by decide) rfl
          refine lv_iconst (v := nI 0) hx hb dL_law_209 (by decide +kernel) ?_
          refine lv_istore (lv' := [(7, .int (nI 0)), (0, .ref b), (1, .ref h0), (2, .ref h2), (3, .int (nI n)), (4, .int (nI k)), (5, .int u), (6, .int v)]) hx hb dL_law_210 hl (by decide) rfl (fun ls hl => ?_)
          refine lw_fil hL C0 hK (n := n) (k := k) (u := u) (v := v) (f := f) (fun H locs ls hP hD hS hl => ?_) 64 0 rfl H locs ls (by rw [ns_fil_0]; exact hP) (by rw [ns_fil_0]; exact hD) hS (lv_sub hl [1, 2, 3, 4, 5, 6, 7, 0] rfl)
          refine lv_goto (tgt := 310) hx hb dL_law_242 (by decide) ?_
          exact tail n (ns_fil f (u >>> (nI 3 &&& 31)) v 64) h2n hn (ns_bd_fil hf _ _ _) H locs ls hP hD hS (lv_sub hl [0, 1, 2, 3, 4] rfl)
        · refine lv_tableIn (off := 128) (tgt := 245) hx hb dL_law_117 (by decide +kernel) (by decide +kernel) (by decide +kernel) (by decide) ?_
          refine lv_aload_n hx hb dL_law_245 rfl (lv_at hl 1 rfl) ?_
          refine lv_iload hx hb dL_law_246 (lv_at hl 6 rfl) ?_
          refine lv_iload hx hb dL_law_248 (lv_at hl 5 rfl) ?_
          refine lv_iconst (v := nI 3) hx hb dL_law_250 (by decide +kernel) ?_
          refine lv_ishr hx hb dL_law_251 ?_
          have hPc := hP.sub (ws' := [(h0, .inr (0, [.ref h1, .int (nI n)])), (h1, .inl (d0, 64, .inl f))]) [0, 1] rfl
          have hDc := hD.sub (ws' := [(h0, .inr (0, [.ref h1, .int (nI n)])), (h1, .inl (d0, 64, .inl f))]) [0, 1] (by decide) rfl
          have hKc := hK.sub (tys' := [(d0, .int)]) [0] rfl
          have hFc := va_free (wc := [(h0, .inr (0, [.ref h1, .int (nI n)])), (h1, .inl (d0, 64, .inl f))]) hD hS hA [0, 1] rfl
          refine va_callv (va_runV (As := [.int v, .int (u >>> ((nI 3) &&& 31))]) (rest := []) ⟨hx, hb, hml, hown, hts⟩ (met_set l D _ h0 h1 d0 (nI n) f v (u >>> (nI 3 &&& 31))) (cwV 2 hts (lw_V q19 q20 q21 q1 q22) rfl rfl rfl (by decide +kernel) ⟨Nat.le_of_ble_eq_true rfl, Nat.le_of_ble_eq_true rfl⟩) ⟨ns_fb, va_recv hKc hPc (ci := 0) (q0 := 0) rfl rfl, ns_pr hPc hKc hDc⟩ rfl rfl hl.1 rfl (lv_room (Nat.le_of_ble_eq_true rfl)) dL_law_252 ⟨Nat.le_of_ble_eq_true rfl, Nat.le_of_ble_eq_true rfl⟩) hS (fun q _ h => hFc q h) hFc (fun ua ta H1 locs ht hvm hw hB hz1 hk1 hS => ?_)
          obtain ⟨hP1, hK1, hD1⟩ := hB
          rw [ht] at hP1
          obtain ⟨hP, hD⟩ := va_join (wr := [(h2, .inl (d1, 64, .inl f))]) (w1 := [(h0, .inr (0, [.ref h1, .int (nI n)])), (h1, .inl (d0, 64, .inl (upd f (ns_at v) ((u >>> (nI 3 &&& 31)) &&& 1073741823))))]) hP hD [0, 1] [2] rfl rfl (by decide) (by decide) hk1 hFc hP1 hD1
          generalize H1 = H at hP hS ⊢
          have hP := hP.sub (ws' := [(h0, .inr (0, [.ref h1, .int (nI n)])), (h1, .inl (d0, 64, .inl (upd f (ns_at v) ((u >>> (nI 3 &&& 31)) &&& 1073741823)))), (h2, .inl (d1, 64, .inl f))]) [1, 2, 0] rfl
          have hD := hD.sub (ws' := [(h0, .inr (0, [.ref h1, .int (nI n)])), (h1, .inl (d0, 64, .inl (upd f (ns_at v) ((u >>> (nI 3 &&& 31)) &&& 1073741823)))), (h2, .inl (d1, 64, .inl f))]) [1, 2, 0] (by decide) rfl
          refine lv_aload_n hx hb dL_law_255 rfl (lv_at hl 2 rfl) ?_
          refine lv_iload hx hb dL_law_256 (lv_at hl 6 rfl) ?_
          refine lv_bipush (v := nI 63) hx hb dL_law_258 (by decide +kernel) ?_
          refine lv_iand hx hb dL_law_260 ?_
          refine ns_as (nI (ns_at v)) (ns_at_eq _) ?_
          refine lv_iload hx hb dL_law_261 (lv_at hl 5 rfl) ?_
          refine lv_iconst (v := nI 3) hx hb dL_law_263 (by decide +kernel) ?_
          refine lv_ishr hx hb dL_law_264 ?_
          have hPc := hP.sub (ws' := []) [] rfl
          have hDc := hD.sub (ws' := []) [] (by decide) rfl
          have hKc := hK.sub (tys' := []) [] rfl
          have hFc := va_free (wc := []) hD hS hA [] rfl
          refine va_calli (va_runS (As := [.int (u >>> ((nI 3) &&& 31))]) (rest := [.int (nI (ns_at v)), .ref h2]) ⟨hx, hb, hml, hown, hts⟩ (met_cut l D _ (u >>> ((nI 3) &&& 31))) (va_cwS 1 hts (lw_S q47 q48 q0 q49) rfl rfl rfl (by decide +kernel) ⟨Nat.le_of_ble_eq_true rfl, Nat.le_of_ble_eq_true rfl⟩) ⟨ns_fb, ns_pr hPc hKc hDc⟩ rfl rfl hl.1 rfl (lv_room (Nat.le_of_ble_eq_true rfl)) dL_law_265 ⟨Nat.le_of_ble_eq_true rfl, Nat.le_of_ble_eq_true rfl⟩) hS (fun q _ h => hFc q h) hFc (fun r_8 ua ta H1 locs ht hvm hw hB hz1 hk1 hS => ?_)
          try dsimp only at hw
          obtain ⟨hP1, hK1, hD1⟩ := hB
          rw [ht] at hP1
          obtain ⟨hP, hD⟩ := va_join (wr := [(h0, .inr (0, [.ref h1, .int (nI n)])), (h1, .inl (d0, 64, .inl (upd f (ns_at v) ((u >>> (nI 3 &&& 31)) &&& 1073741823)))), (h2, .inl (d1, 64, .inl f))]) (w1 := []) hP hD [] [0, 1, 2] rfl rfl (by decide) (by decide) hk1 hFc hP1 hD1
          generalize H1 = H at hP hS ⊢
          have hP := hP.sub (ws' := [(h0, .inr (0, [.ref h1, .int (nI n)])), (h1, .inl (d0, 64, .inl (upd f (ns_at v) ((u >>> (nI 3 &&& 31)) &&& 1073741823)))), (h2, .inl (d1, 64, .inl f))]) [0, 1, 2] rfl
          have hD := hD.sub (ws' := [(h0, .inr (0, [.ref h1, .int (nI n)])), (h1, .inl (d0, 64, .inl (upd f (ns_at v) ((u >>> (nI 3 &&& 31)) &&& 1073741823)))), (h2, .inl (d1, 64, .inl f))]) [0, 1, 2] (by decide) rfl
          refine ns_as ((u >>> (nI 3 &&& 31)) &&& 1073741823) hw ?_
          refine ns_ast hx hb hK hP hD hS 2 1 rfl rfl (j := (ns_at v)) (ns_at_lt _) (by decide) dL_law_268 (fun H locs hP hD hS => ?_)
          have hP : va_P D vwCl [(h0, .inr (0, [.ref h1, .int (nI n)])), (h1, .inl (d0, 64, .inl (upd f (ns_at v) ((u >>> (nI 3 &&& 31)) &&& 1073741823)))), (h2, .inl (d1, 64, .inl (upd f (ns_at v) ((u >>> (nI 3 &&& 31)) &&& 1073741823))))] H := hP
          have hD : va_D (ns_A s) [(h0, .inr (0, [.ref h1, .int (nI n)])), (h1, .inl (d0, 64, .inl (upd f (ns_at v) ((u >>> (nI 3 &&& 31)) &&& 1073741823)))), (h2, .inl (d1, 64, .inl (upd f (ns_at v) ((u >>> (nI 3 &&& 31)) &&& 1073741823))))] := hD
          refine lv_goto (tgt := 310) hx hb dL_law_269 (by decide) ?_
          exact tail n (upd f (ns_at v) ((u >>> (nI 3 &&& 31)) &&& 1073741823)) h2n hn (ns_bd_upd hf (ns_cut_bd _)) H locs ls hP hD hS (lv_sub hl [0, 1, 2, 3, 4] rfl)
        · refine lv_tableIn (off := 155) (tgt := 272) hx hb dL_law_117 (by decide +kernel) (by decide +kernel) (by decide +kernel) (by decide) ?_
          refine lv_aload_n hx hb dL_law_272 rfl (lv_at hl 1 rfl) ?_
          refine lv_iload hx hb dL_law_273 (lv_at hl 6 rfl) ?_
          have hPc := hP.sub (ws' := [(h0, .inr (0, [.ref h1, .int (nI n)])), (h1, .inl (d0, 64, .inl f))]) [0, 1] rfl
          have hDc := hD.sub (ws' := [(h0, .inr (0, [.ref h1, .int (nI n)])), (h1, .inl (d0, 64, .inl f))]) [0, 1] (by decide) rfl
          have hKc := hK.sub (tys' := [(d0, .int)]) [0] rfl
          have hFc := va_free (wc := [(h0, .inr (0, [.ref h1, .int (nI n)])), (h1, .inl (d0, 64, .inl f))]) hD hS hA [0, 1] rfl
          refine va_callv (va_runV (As := [.int v]) (rest := []) ⟨hx, hb, hml, hown, hts⟩ (met_length l D _ h0 h1 d0 (nI n) f v) (cwV 1 hts (lw_V q28 q29 q30 q1 q31) rfl rfl rfl (by decide +kernel) ⟨Nat.le_of_ble_eq_true rfl, Nat.le_of_ble_eq_true rfl⟩) ⟨ns_fb, va_recv hKc hPc (ci := 0) (q0 := 0) rfl rfl, ns_pr hPc hKc hDc⟩ rfl rfl hl.1 rfl (lv_room (Nat.le_of_ble_eq_true rfl)) dL_law_275 ⟨Nat.le_of_ble_eq_true rfl, Nat.le_of_ble_eq_true rfl⟩) hS (fun q _ h => hFc q h) hFc (fun ua ta H1 locs ht hvm hw hB hz1 hk1 hS => ?_)
          obtain ⟨hP1, hK1, hD1⟩ := hB
          rw [ht] at hP1
          obtain ⟨hP, hD⟩ := va_join (wr := [(h2, .inl (d1, 64, .inl f))]) (w1 := [(h0, .inr (0, [.ref h1, .int (nI (ns_len v))])), (h1, .inl (d0, 64, .inl f))]) hP hD [0, 1] [2] rfl rfl (by decide) (by decide) hk1 hFc hP1 hD1
          generalize H1 = H at hP hS ⊢
          have hP := hP.sub (ws' := [(h0, .inr (0, [.ref h1, .int (nI (ns_len v))])), (h1, .inl (d0, 64, .inl f)), (h2, .inl (d1, 64, .inl f))]) [1, 2, 0] rfl
          have hD := hD.sub (ws' := [(h0, .inr (0, [.ref h1, .int (nI (ns_len v))])), (h1, .inl (d0, 64, .inl f)), (h2, .inl (d1, 64, .inl f))]) [1, 2, 0] (by decide) rfl
          refine lv_iconst (v := nI 2) hx hb dL_law_278 (by decide +kernel) ?_
          refine lv_iload hx hb dL_law_279 (lv_at hl 6 rfl) ?_
          refine lv_ldc (v := 2147483647) hx hb hown (hts _ q72) dL_law_281 ?_
          refine lv_iand hx hb dL_law_283 ?_
          refine lv_bipush (v := nI 63) hx hb dL_law_284 (by decide +kernel) ?_
          refine lv_irem hx hb dL_law_286 (by decide +kernel) ?_
          refine lv_iadd hx hb dL_law_287 ?_
          refine ns_as (nI (ns_len v)) (ns_len_eq v) ?_
          refine lv_istore_n (lv' := [(3, .int (nI (ns_len v))), (0, .ref b), (1, .ref h0), (2, .ref h2), (4, .int (nI k)), (5, .int u), (6, .int v)]) hx hb dL_law_288 rfl hl (by decide) rfl (fun ls hl => ?_)
          refine lv_aload_n hx hb dL_law_289 rfl (lv_at hl 2 rfl) ?_
          have hPc := hP.sub (ws' := [(h0, .inr (0, [.ref h1, .int (nI (ns_len v))])), (h1, .inl (d0, 64, .inl f))]) [0, 1] rfl
          have hDc := hD.sub (ws' := [(h0, .inr (0, [.ref h1, .int (nI (ns_len v))])), (h1, .inl (d0, 64, .inl f))]) [0, 1] (by decide) rfl
          have hKc := hK.sub (tys' := [(d0, .int)]) [0] rfl
          have hFc := va_free (wc := [(h0, .inr (0, [.ref h1, .int (nI (ns_len v))])), (h1, .inl (d0, 64, .inl f))]) hD hS hA [0, 1] rfl
          refine va_callv (va_runV (As := []) (rest := []) ⟨hx, hb, hml, hown, hts⟩ (met_sort l D _ h0 h1 d0 (ns_len v) f ((ns_len_in v).1) ((ns_len_in v).2) hf) (cwV 0 hts (lw_V q33 q34 q35 q1 q36) rfl rfl rfl (by decide +kernel) ⟨Nat.le_of_ble_eq_true rfl, Nat.le_of_ble_eq_true rfl⟩) ⟨ns_fb, va_recv hKc hPc (ci := 0) (q0 := 0) rfl rfl, ns_pr hPc hKc hDc⟩ rfl rfl hl.1 rfl (lv_room (Nat.le_of_ble_eq_true rfl)) dL_law_290 ⟨Nat.le_of_ble_eq_true rfl, Nat.le_of_ble_eq_true rfl⟩) hS (fun q _ h => hFc q h) hFc (fun ua ta H1 locs ht hvm hw hB hz1 hk1 hS => ?_)
          obtain ⟨hP1, hK1, hD1⟩ := hB
          rw [ht] at hP1
          obtain ⟨hP, hD⟩ := va_join (wr := [(h2, .inl (d1, 64, .inl f))]) (w1 := [(h0, .inr (0, [.ref h1, .int (nI (ns_len v))])), (h1, .inl (d0, 64, .inl (ns_srt f (ns_len v - 1))))]) hP hD [0, 1] [2] rfl rfl (by decide) (by decide) hk1 hFc hP1 hD1
          generalize H1 = H at hP hS ⊢
          have hP := hP.sub (ws' := [(h0, .inr (0, [.ref h1, .int (nI (ns_len v))])), (h1, .inl (d0, 64, .inl (ns_srt f (ns_len v - 1)))), (h2, .inl (d1, 64, .inl f))]) [1, 2, 0] rfl
          have hD := hD.sub (ws' := [(h0, .inr (0, [.ref h1, .int (nI (ns_len v))])), (h1, .inl (d0, 64, .inl (ns_srt f (ns_len v - 1)))), (h2, .inl (d1, 64, .inl f))]) [1, 2, 0] (by decide) rfl
          refine lv_aload_n hx hb dL_law_293 rfl (lv_at hl 3 rfl) ?_
          refine lv_iload_n hx hb dL_law_294 rfl (lv_at hl 0 rfl) ?_
          have hPc := hP.sub (ws' := [(h2, .inl (d1, 64, .inl f))]) [2] rfl
          have hDc := hD.sub (ws' := [(h2, .inl (d1, 64, .inl f))]) [2] (by decide) rfl
          have hKc := hK.sub (tys' := [(d1, .int)]) [1] rfl
          have hFc := va_free (wc := [(h2, .inl (d1, 64, .inl f))]) hD hS hA [2] rfl
          refine va_callv (va_runS (As := [.ref h2, .int (nI (ns_len v))]) (rest := []) ⟨hx, hb, hml, hown, hts⟩ (met_plainly l D _ h2 d1 f (ns_len v) ((ns_len_in v).1) ((ns_len_in v).2)) (va_cwS 2 hts (lw_S q51 q52 q0 q53) rfl rfl rfl (by decide +kernel) ⟨Nat.le_of_ble_eq_true rfl, Nat.le_of_ble_eq_true rfl⟩) ⟨ns_fb, ns_pr hPc hKc hDc⟩ rfl rfl hl.1 rfl (lv_room (Nat.le_of_ble_eq_true rfl)) dL_law_295 ⟨Nat.le_of_ble_eq_true rfl, Nat.le_of_ble_eq_true rfl⟩) hS (fun q _ h => hFc q h) hFc (fun ua ta H1 locs ht hvm hw hB hz1 hk1 hS => ?_)
          obtain ⟨hP1, hK1, hD1⟩ := hB
          rw [ht] at hP1
          obtain ⟨hP, hD⟩ := va_join (wr := [(h0, .inr (0, [.ref h1, .int (nI (ns_len v))])), (h1, .inl (d0, 64, .inl (ns_srt f (ns_len v - 1))))]) (w1 := [(h2, .inl (d1, 64, .inl (ns_srt f (ns_len v - 1))))]) hP hD [2] [0, 1] rfl rfl (by decide) (by decide) hk1 hFc hP1 hD1
          generalize H1 = H at hP hS ⊢
          have hP := hP.sub (ws' := [(h0, .inr (0, [.ref h1, .int (nI (ns_len v))])), (h1, .inl (d0, 64, .inl (ns_srt f (ns_len v - 1)))), (h2, .inl (d1, 64, .inl (ns_srt f (ns_len v - 1))))]) [0, 1, 2] rfl
          have hD := hD.sub (ws' := [(h0, .inr (0, [.ref h1, .int (nI (ns_len v))])), (h1, .inl (d0, 64, .inl (ns_srt f (ns_len v - 1)))), (h2, .inl (d1, 64, .inl (ns_srt f (ns_len v - 1))))]) [0, 1, 2] (by decide) rfl
          refine lv_goto (tgt := 310) hx hb dL_law_298 (by decide) ?_
          exact tail (ns_len v) (ns_srt f (ns_len v - 1)) ((ns_len_in v).1) ((ns_len_in v).2) (ns_bd_srt hf _) H locs ls hP hD hS (lv_sub hl [1, 2, 3, 0, 4] rfl)
set_option maxHeartbeats 4000000 in
set_option maxRecDepth 100000 in
/-- a sorted row sorted again at every length -/
theorem lw_lst {p : Program} {l : Launch} {e : Env} {s : State} {m : MethodId} {below : List Frame} {meth : Method} {c : Code} {D : va_G} {b L : Nat} {xs : Nat → Int32} {h0 h1 h2 : Nat} {d0 d1 : ClassId} (hL : L ≤ 96) (C0 : lw_At p s m meth c b L xs) (hK : va_K D vwCl [(d0, .int), (d1, .int)] s) {n : Nat} {f : Nat → Int32} (hf : ns_bd f) (hs : ns_sorted 64 f) (K : ∀ (H : Heap) (locs : List Loc) (ls : Array Slot), va_P D vwCl [(h0, .inr (0, [.ref h1, .int (nI 64)])), (h1, .inl (d0, 64, .inl f)), (h2, .inl (d1, 64, .inl f))] H → va_D (ns_A s) [(h0, .inr (0, [.ref h1, .int (nI 64)])), (h1, .inl (d0, 64, .inl f)), (h2, .inl (d1, 64, .inl f))] → va_S (ns_A s) s.heap H locs → lv_has ls 8 [(0, .ref b), (1, .ref h0), (2, .ref h2), (3, .int (nI n))] → W p l e room_1 s m #[Value.ref b] below meth c H locs 3 130 (lw_Z below #[Value.ref b] s) (F0 m 383 ls [])) :
    ∀ (cnt k q : Nat), k + cnt = 65 → 2 ≤ k → (k = 65 → q = 64) → ∀ (H : Heap) (locs : List Loc) (ls : Array Slot), va_P D vwCl [(h0, .inr (0, [.ref h1, .int (nI q)])), (h1, .inl (d0, 64, .inl f)), (h2, .inl (d1, 64, .inl f))] H → va_D (ns_A s) [(h0, .inr (0, [.ref h1, .int (nI q)])), (h1, .inl (d0, 64, .inl f)), (h2, .inl (d1, 64, .inl f))] → va_S (ns_A s) s.heap H locs → lv_has ls 8 [(0, .ref b), (1, .ref h0), (2, .ref h2), (3, .int (nI n)), (4, .int (nI k))] → W p l e room_1 s m #[Value.ref b] below meth c H locs 3 130 (lw_Z below #[Value.ref b] s) (F0 m 358 ls []) := by
  obtain ⟨hx, hb, hr, hml, hown, hts0, hX, hbl, hlocks, hgv⟩ := id C0
  have hts : ∀ w ∈ lw_all, w.before #[Value.ref b] s = true := fun w h => hts0 w (lw_all_tbl h)
  have hA : ∀ q : Nat, s.heap.size ≤ q → ns_A s q := fun _ h => h
  have hbA : ¬ ns_A s b := Nat.not_le.mpr hbl
  intro cnt
  induction cnt with
  | zero =>
    intro k q hk h2k hq H locs ls hP hD hS hl
    have hk : k = 65 := by omega
    subst hk
    have hq : q = 64 := hq rfl
    subst hq
    refine lv_iload hx hb dL_law_358 (lv_at hl 4 rfl) ?_
    refine lv_bipush (v := nI 64) hx hb dL_law_360 (by decide +kernel) ?_
    refine lv_icmp_gt (tgt := 383) hx hb dL_law_362 (by decide) (fun c_1 => ?_) (fun c_1 => ?_)
    · exact K H locs ls hP hD hS (lv_sub hl [0, 1, 2, 3] rfl)
    · exact absurd (nI_lt (by decide) (by decide)) c_1
  | succ cnt ih =>
    intro k q hk h2k hq H locs ls hP hD hS hl
    have hlt : k ≤ 64 := by omega
    have hsk : ns_sorted k f := fun j hj => hs j (by omega)
    refine lv_iload hx hb dL_law_358 (lv_at hl 4 rfl) ?_
    refine lv_bipush (v := nI 64) hx hb dL_law_360 (by decide +kernel) ?_
    refine lv_icmp_gt (tgt := 383) hx hb dL_law_362 (by decide) (fun c_2 => ?_) (fun c_2 => ?_)
    · exact absurd c_2 (nI_nlt hlt (by decide))
    · refine lv_aload_n hx hb dL_law_365 rfl (lv_at hl 1 rfl) ?_
      refine lv_iload hx hb dL_law_366 (lv_at hl 4 rfl) ?_
      refine lv_iconst (v := nI 2) hx hb dL_law_368 (by decide +kernel) ?_
      refine lv_isub hx hb dL_law_369 ?_
      refine ns_as (nI (k - 2)) (pk_sub h2k) ?_
      have hPc := hP.sub (ws' := [(h0, .inr (0, [.ref h1, .int (nI q)])), (h1, .inl (d0, 64, .inl f))]) [0, 1] rfl
      have hDc := hD.sub (ws' := [(h0, .inr (0, [.ref h1, .int (nI q)])), (h1, .inl (d0, 64, .inl f))]) [0, 1] (by decide) rfl
      have hKc := hK.sub (tys' := [(d0, .int)]) [0] rfl
      have hFc := va_free (wc := [(h0, .inr (0, [.ref h1, .int (nI q)])), (h1, .inl (d0, 64, .inl f))]) hD hS hA [0, 1] rfl
      refine va_callv (va_runV (As := [.int (nI (k - 2))]) (rest := []) ⟨hx, hb, hml, hown, hts⟩ (met_length l D _ h0 h1 d0 (nI q) f (nI (k - 2))) (cwV 1 hts (lw_V q28 q29 q30 q1 q31) rfl rfl rfl (by decide +kernel) ⟨Nat.le_of_ble_eq_true rfl, Nat.le_of_ble_eq_true rfl⟩) ⟨ns_fb, va_recv hKc hPc (ci := 0) (q0 := 0) rfl rfl, ns_pr hPc hKc hDc⟩ rfl rfl hl.1 rfl (lv_room (Nat.le_of_ble_eq_true rfl)) dL_law_370 ⟨Nat.le_of_ble_eq_true rfl, Nat.le_of_ble_eq_true rfl⟩) hS (fun q _ h => hFc q h) hFc (fun ua ta H1 locs ht hvm hw hB hz1 hk1 hS => ?_)
      obtain ⟨hP1, hK1, hD1⟩ := hB
      rw [ht] at hP1
      obtain ⟨hP, hD⟩ := va_join (wr := [(h2, .inl (d1, 64, .inl f))]) (w1 := [(h0, .inr (0, [.ref h1, .int (nI (ns_len (nI (k - 2))))])), (h1, .inl (d0, 64, .inl f))]) hP hD [0, 1] [2] rfl rfl (by decide) (by decide) hk1 hFc hP1 hD1
      generalize H1 = H at hP hS ⊢
      have hP := hP.sub (ws' := [(h0, .inr (0, [.ref h1, .int (nI (ns_len (nI (k - 2))))])), (h1, .inl (d0, 64, .inl f)), (h2, .inl (d1, 64, .inl f))]) [1, 2, 0] rfl
      have hD := hD.sub (ws' := [(h0, .inr (0, [.ref h1, .int (nI (ns_len (nI (k - 2))))])), (h1, .inl (d0, 64, .inl f)), (h2, .inl (d1, 64, .inl f))]) [1, 2, 0] (by decide) rfl
      have hP : va_P D vwCl [(h0, .inr (0, [.ref h1, .int (nI k)])), (h1, .inl (d0, 64, .inl f)), (h2, .inl (d1, 64, .inl f))] H := by rw [ns_len_n h2k hlt] at hP; exact hP
      have hD : va_D (ns_A s) [(h0, .inr (0, [.ref h1, .int (nI k)])), (h1, .inl (d0, 64, .inl f)), (h2, .inl (d1, 64, .inl f))] := by rw [ns_len_n h2k hlt] at hD; exact hD
      refine lv_aload_n hx hb dL_law_373 rfl (lv_at hl 1 rfl) ?_
      have hPc := hP.sub (ws' := [(h0, .inr (0, [.ref h1, .int (nI k)])), (h1, .inl (d0, 64, .inl f))]) [0, 1] rfl
      have hDc := hD.sub (ws' := [(h0, .inr (0, [.ref h1, .int (nI k)])), (h1, .inl (d0, 64, .inl f))]) [0, 1] (by decide) rfl
      have hKc := hK.sub (tys' := [(d0, .int)]) [0] rfl
      have hFc := va_free (wc := [(h0, .inr (0, [.ref h1, .int (nI k)])), (h1, .inl (d0, 64, .inl f))]) hD hS hA [0, 1] rfl
      refine va_callv (va_runV (As := []) (rest := []) ⟨hx, hb, hml, hown, hts⟩ (met_sort l D _ h0 h1 d0 k f h2k hlt hf) (cwV 0 hts (lw_V q33 q34 q35 q1 q36) rfl rfl rfl (by decide +kernel) ⟨Nat.le_of_ble_eq_true rfl, Nat.le_of_ble_eq_true rfl⟩) ⟨ns_fb, va_recv hKc hPc (ci := 0) (q0 := 0) rfl rfl, ns_pr hPc hKc hDc⟩ rfl rfl hl.1 rfl (lv_room (Nat.le_of_ble_eq_true rfl)) dL_law_374 ⟨Nat.le_of_ble_eq_true rfl, Nat.le_of_ble_eq_true rfl⟩) hS (fun q _ h => hFc q h) hFc (fun ua ta H1 locs ht hvm hw hB hz1 hk1 hS => ?_)
      obtain ⟨hP1, hK1, hD1⟩ := hB
      rw [ht] at hP1
      obtain ⟨hP, hD⟩ := va_join (wr := [(h2, .inl (d1, 64, .inl f))]) (w1 := [(h0, .inr (0, [.ref h1, .int (nI k)])), (h1, .inl (d0, 64, .inl (ns_srt f (k - 1))))]) hP hD [0, 1] [2] rfl rfl (by decide) (by decide) hk1 hFc hP1 hD1
      generalize H1 = H at hP hS ⊢
      have hP := hP.sub (ws' := [(h0, .inr (0, [.ref h1, .int (nI k)])), (h1, .inl (d0, 64, .inl (ns_srt f (k - 1)))), (h2, .inl (d1, 64, .inl f))]) [1, 2, 0] rfl
      have hD := hD.sub (ws' := [(h0, .inr (0, [.ref h1, .int (nI k)])), (h1, .inl (d0, 64, .inl (ns_srt f (k - 1)))), (h2, .inl (d1, 64, .inl f))]) [1, 2, 0] (by decide) rfl
      have hP : va_P D vwCl [(h0, .inr (0, [.ref h1, .int (nI k)])), (h1, .inl (d0, 64, .inl f)), (h2, .inl (d1, 64, .inl f))] H := by rw [ns_srt_id h2k hsk] at hP; exact hP
      have hD : va_D (ns_A s) [(h0, .inr (0, [.ref h1, .int (nI k)])), (h1, .inl (d0, 64, .inl f)), (h2, .inl (d1, 64, .inl f))] := by rw [ns_srt_id h2k hsk] at hD; exact hD
      refine lv_iinc (v := nI (k + 1)) (lv' := [(4, .int (nI (k + 1))), (0, .ref b), (1, .ref h0), (2, .ref h2), (3, .int (nI n))]) hx hb dL_law_377 hl (k := 4) rfl (ns_inc k) (by decide) rfl (fun ls hl => ?_)
      refine lv_goto (tgt := 358) hx hb dL_law_380 (by decide) ?_
      exact ih (k + 1) k (by omega) (by omega) (by omega) H locs ls hP hD hS (lv_sub hl [1, 2, 3, 4, 0] rfl)
set_option maxHeartbeats 4000000 in
set_option maxRecDepth 100000 in
/-- from the end of the calls on -/
theorem lw_end {p : Program} {l : Launch} {e : Env} {s : State} {m : MethodId} {below : List Frame} {meth : Method} {c : Code} {D : va_G} {b L : Nat} {xs : Nat → Int32} {h0 h1 h2 : Nat} {d0 d1 : ClassId} (hL : L ≤ 96) (C0 : lw_At p s m meth c b L xs) (hK : va_K D vwCl [(d0, .int), (d1, .int)] s) (n : Nat) (f : Nat → Int32) (h2n : 2 ≤ n) (hn : n ≤ 64) (hf : ns_bd f) :
    ∀ (H : Heap) (locs : List Loc) (ls : Array Slot), va_P D vwCl [(h0, .inr (0, [.ref h1, .int (nI n)])), (h1, .inl (d0, 64, .inl f)), (h2, .inl (d1, 64, .inl f))] H → va_D (ns_A s) [(h0, .inr (0, [.ref h1, .int (nI n)])), (h1, .inl (d0, 64, .inl f)), (h2, .inl (d1, 64, .inl f))] → va_S (ns_A s) s.heap H locs → lv_has ls 8 [(0, .ref b), (1, .ref h0), (2, .ref h2), (3, .int (nI n))] → W p l e room_1 s m #[Value.ref b] below meth c H locs 3 130 (lw_Z below #[Value.ref b] s) (F0 m 327 ls []) := by
  obtain ⟨hx, hb, hr, hml, hown, hts0, hX, hbl, hlocks, hgv⟩ := id C0
  have hts : ∀ w ∈ lw_all, w.before #[Value.ref b] s = true := fun w h => hts0 w (lw_all_tbl h)
  have hA : ∀ q : Nat, s.heap.size ≤ q → ns_A s q := fun _ h => h
  have hbA : ¬ ns_A s b := Nat.not_le.mpr hbl
  intro H locs ls hP hD hS hl
  refine lv_aload_n hx hb dL_law_327 rfl (lv_at hl 1 rfl) ?_
  refine lv_bipush (v := nI 62) hx hb dL_law_328 (by decide +kernel) ?_
  have hPc := hP.sub (ws' := [(h0, .inr (0, [.ref h1, .int (nI n)])), (h1, .inl (d0, 64, .inl f))]) [0, 1] rfl
  have hDc := hD.sub (ws' := [(h0, .inr (0, [.ref h1, .int (nI n)])), (h1, .inl (d0, 64, .inl f))]) [0, 1] (by decide) rfl
  have hKc := hK.sub (tys' := [(d0, .int)]) [0] rfl
  have hFc := va_free (wc := [(h0, .inr (0, [.ref h1, .int (nI n)])), (h1, .inl (d0, 64, .inl f))]) hD hS hA [0, 1] rfl
  refine va_callv (va_runV (As := [.int (nI 62)]) (rest := []) ⟨hx, hb, hml, hown, hts⟩ (met_length l D _ h0 h1 d0 (nI n) f (nI 62)) (cwV 1 hts (lw_V q28 q29 q30 q1 q31) rfl rfl rfl (by decide +kernel) ⟨Nat.le_of_ble_eq_true rfl, Nat.le_of_ble_eq_true rfl⟩) ⟨ns_fb, va_recv hKc hPc (ci := 0) (q0 := 0) rfl rfl, ns_pr hPc hKc hDc⟩ rfl rfl hl.1 rfl (lv_room (Nat.le_of_ble_eq_true rfl)) dL_law_330 ⟨Nat.le_of_ble_eq_true rfl, Nat.le_of_ble_eq_true rfl⟩) hS (fun q _ h => hFc q h) hFc (fun ua ta H1 locs ht hvm hw hB hz1 hk1 hS => ?_)
  obtain ⟨hP1, hK1, hD1⟩ := hB
  rw [ht] at hP1
  obtain ⟨hP, hD⟩ := va_join (wr := [(h2, .inl (d1, 64, .inl f))]) (w1 := [(h0, .inr (0, [.ref h1, .int (nI (ns_len (nI 62)))])), (h1, .inl (d0, 64, .inl f))]) hP hD [0, 1] [2] rfl rfl (by decide) (by decide) hk1 hFc hP1 hD1
  generalize H1 = H at hP hS ⊢
  have hP := hP.sub (ws' := [(h0, .inr (0, [.ref h1, .int (nI (ns_len (nI 62)))])), (h1, .inl (d0, 64, .inl f)), (h2, .inl (d1, 64, .inl f))]) [1, 2, 0] rfl
  have hD := hD.sub (ws' := [(h0, .inr (0, [.ref h1, .int (nI (ns_len (nI 62)))])), (h1, .inl (d0, 64, .inl f)), (h2, .inl (d1, 64, .inl f))]) [1, 2, 0] (by decide) rfl
  have hP : va_P D vwCl [(h0, .inr (0, [.ref h1, .int (nI 64)])), (h1, .inl (d0, 64, .inl f)), (h2, .inl (d1, 64, .inl f))] H := by rw [show ns_len (nI 62) = 64 by decide +kernel] at hP; exact hP
  have hD : va_D (ns_A s) [(h0, .inr (0, [.ref h1, .int (nI 64)])), (h1, .inl (d0, 64, .inl f)), (h2, .inl (d1, 64, .inl f))] := by rw [show ns_len (nI 62) = 64 by decide +kernel] at hD; exact hD
  refine lv_aload_n hx hb dL_law_333 rfl (lv_at hl 1 rfl) ?_
  have hPc := hP.sub (ws' := [(h0, .inr (0, [.ref h1, .int (nI 64)])), (h1, .inl (d0, 64, .inl f))]) [0, 1] rfl
  have hDc := hD.sub (ws' := [(h0, .inr (0, [.ref h1, .int (nI 64)])), (h1, .inl (d0, 64, .inl f))]) [0, 1] (by decide) rfl
  have hKc := hK.sub (tys' := [(d0, .int)]) [0] rfl
  have hFc := va_free (wc := [(h0, .inr (0, [.ref h1, .int (nI 64)])), (h1, .inl (d0, 64, .inl f))]) hD hS hA [0, 1] rfl
  refine va_callv (va_runV (As := []) (rest := []) ⟨hx, hb, hml, hown, hts⟩ (met_sort l D _ h0 h1 d0 64 f (by decide) (by decide) hf) (cwV 0 hts (lw_V q33 q34 q35 q1 q36) rfl rfl rfl (by decide +kernel) ⟨Nat.le_of_ble_eq_true rfl, Nat.le_of_ble_eq_true rfl⟩) ⟨ns_fb, va_recv hKc hPc (ci := 0) (q0 := 0) rfl rfl, ns_pr hPc hKc hDc⟩ rfl rfl hl.1 rfl (lv_room (Nat.le_of_ble_eq_true rfl)) dL_law_334 ⟨Nat.le_of_ble_eq_true rfl, Nat.le_of_ble_eq_true rfl⟩) hS (fun q _ h => hFc q h) hFc (fun ua ta H1 locs ht hvm hw hB hz1 hk1 hS => ?_)
  obtain ⟨hP1, hK1, hD1⟩ := hB
  rw [ht] at hP1
  obtain ⟨hP, hD⟩ := va_join (wr := [(h2, .inl (d1, 64, .inl f))]) (w1 := [(h0, .inr (0, [.ref h1, .int (nI 64)])), (h1, .inl (d0, 64, .inl (ns_srt f (64 - 1))))]) hP hD [0, 1] [2] rfl rfl (by decide) (by decide) hk1 hFc hP1 hD1
  generalize H1 = H at hP hS ⊢
  have hP := hP.sub (ws' := [(h0, .inr (0, [.ref h1, .int (nI 64)])), (h1, .inl (d0, 64, .inl (ns_srt f (64 - 1)))), (h2, .inl (d1, 64, .inl f))]) [1, 2, 0] rfl
  have hD := hD.sub (ws' := [(h0, .inr (0, [.ref h1, .int (nI 64)])), (h1, .inl (d0, 64, .inl (ns_srt f (64 - 1)))), (h2, .inl (d1, 64, .inl f))]) [1, 2, 0] (by decide) rfl
  refine lv_aload_n hx hb dL_law_337 rfl (lv_at hl 2 rfl) ?_
  refine lv_bipush (v := nI 64) hx hb dL_law_338 (by decide +kernel) ?_
  have hPc := hP.sub (ws' := [(h2, .inl (d1, 64, .inl f))]) [2] rfl
  have hDc := hD.sub (ws' := [(h2, .inl (d1, 64, .inl f))]) [2] (by decide) rfl
  have hKc := hK.sub (tys' := [(d1, .int)]) [1] rfl
  have hFc := va_free (wc := [(h2, .inl (d1, 64, .inl f))]) hD hS hA [2] rfl
  refine va_callv (va_runS (As := [.ref h2, .int (nI 64)]) (rest := []) ⟨hx, hb, hml, hown, hts⟩ (met_plainly l D _ h2 d1 f 64 (by decide) (by decide)) (va_cwS 2 hts (lw_S q51 q52 q0 q53) rfl rfl rfl (by decide +kernel) ⟨Nat.le_of_ble_eq_true rfl, Nat.le_of_ble_eq_true rfl⟩) ⟨ns_fb, ns_pr hPc hKc hDc⟩ rfl rfl hl.1 rfl (lv_room (Nat.le_of_ble_eq_true rfl)) dL_law_340 ⟨Nat.le_of_ble_eq_true rfl, Nat.le_of_ble_eq_true rfl⟩) hS (fun q _ h => hFc q h) hFc (fun ua ta H1 locs ht hvm hw hB hz1 hk1 hS => ?_)
  obtain ⟨hP1, hK1, hD1⟩ := hB
  rw [ht] at hP1
  obtain ⟨hP, hD⟩ := va_join (wr := [(h0, .inr (0, [.ref h1, .int (nI 64)])), (h1, .inl (d0, 64, .inl (ns_srt f (64 - 1))))]) (w1 := [(h2, .inl (d1, 64, .inl (ns_srt f (64 - 1))))]) hP hD [2] [0, 1] rfl rfl (by decide) (by decide) hk1 hFc hP1 hD1
  generalize H1 = H at hP hS ⊢
  have hP := hP.sub (ws' := [(h0, .inr (0, [.ref h1, .int (nI 64)])), (h1, .inl (d0, 64, .inl (ns_srt f (64 - 1)))), (h2, .inl (d1, 64, .inl (ns_srt f (64 - 1))))]) [0, 1, 2] rfl
  have hD := hD.sub (ws' := [(h0, .inr (0, [.ref h1, .int (nI 64)])), (h1, .inl (d0, 64, .inl (ns_srt f (64 - 1)))), (h2, .inl (d1, 64, .inl (ns_srt f (64 - 1))))]) [0, 1, 2] (by decide) rfl
  have hg : ns_bd (ns_srt f (64 - 1)) := ns_bd_srt hf _
  have hs : ns_sorted 64 (ns_srt f (64 - 1)) := fun k hk => ns_srt_sorted f (64 - 1) k (by omega)
  generalize (ns_srt f (64 - 1)) = g at hP hD hg hs
  refine lv_aload_n hx hb dL_law_343 rfl (lv_at hl 1 rfl) ?_
  refine lv_aload_n hx hb dL_law_344 rfl (lv_at hl 2 rfl) ?_
  refine lv_bipush (v := nI 64) hx hb dL_law_345 (by decide +kernel) ?_
  have hPc := hP.sub (ws' := [(h0, .inr (0, [.ref h1, .int (nI 64)])), (h1, .inl (d0, 64, .inl g)), (h2, .inl (d1, 64, .inl g))]) [0, 1, 2] rfl
  have hDc := hD.sub (ws' := [(h0, .inr (0, [.ref h1, .int (nI 64)])), (h1, .inl (d0, 64, .inl g)), (h2, .inl (d1, 64, .inl g))]) [0, 1, 2] (by decide) rfl
  have hKc := hK.sub (tys' := [(d0, .int), (d1, .int)]) [0, 1] rfl
  have hFc := va_free (wc := [(h0, .inr (0, [.ref h1, .int (nI 64)])), (h1, .inl (d0, 64, .inl g)), (h2, .inl (d1, 64, .inl g))]) hD hS hA [0, 1, 2] rfl
  refine va_calli (va_runS (As := [.ref h0, .ref h2, .int (nI 64)]) (rest := []) ⟨hx, hb, hml, hown, hts⟩ (met_stands l D _ h0 h1 h2 d0 d1 (nI 64) g) (va_cwS 3 hts (lw_S q54 q55 q0 q56) rfl rfl rfl (by decide +kernel) ⟨Nat.le_of_ble_eq_true rfl, Nat.le_of_ble_eq_true rfl⟩) ⟨ns_fb, ns_pr hPc hKc hDc⟩ rfl rfl hl.1 rfl (lv_room (Nat.le_of_ble_eq_true rfl)) dL_law_347 ⟨Nat.le_of_ble_eq_true rfl, Nat.le_of_ble_eq_true rfl⟩) hS (fun q _ h => hFc q h) hFc (fun r_1 ua ta H1 locs ht hvm hw hB hz1 hk1 hS => ?_)
  try dsimp only at hw
  obtain ⟨hP1, hK1, hD1⟩ := hB
  rw [ht] at hP1
  obtain ⟨hP, hD⟩ := va_join (wr := []) (w1 := [(h0, .inr (0, [.ref h1, .int (nI 64)])), (h1, .inl (d0, 64, .inl g)), (h2, .inl (d1, 64, .inl g))]) hP hD [0, 1, 2] [] rfl rfl (by decide) (by decide) hk1 hFc hP1 hD1
  generalize H1 = H at hP hS ⊢
  have hP := hP.sub (ws' := [(h0, .inr (0, [.ref h1, .int (nI 64)])), (h1, .inl (d0, 64, .inl g)), (h2, .inl (d1, 64, .inl g))]) [0, 1, 2] rfl
  have hD := hD.sub (ws' := [(h0, .inr (0, [.ref h1, .int (nI 64)])), (h1, .inl (d0, 64, .inl g)), (h2, .inl (d1, 64, .inl g))]) [0, 1, 2] (by decide) rfl
  refine ns_as 1 hw ?_
  refine lv_if_ne (tgt := 355) hx hb dL_law_350 (by decide) (fun c_2 => ?_) (fun c_2 => ?_)
  · refine lv_iconst (v := nI 2) hx hb dL_law_355 (by decide +kernel) ?_
    refine lv_istore (lv' := [(4, .int (nI 2)), (0, .ref b), (1, .ref h0), (2, .ref h2), (3, .int (nI n))]) hx hb dL_law_356 hl (by decide) rfl (fun ls hl => ?_)
    refine lw_lst hL C0 hK (n := n) hg hs (fun H locs ls hP hD hS hl => ?_) 63 2 64 rfl (by decide) (fun _ => rfl) H locs ls hP hD hS (lv_sub hl [1, 2, 3, 4, 0] rfl)
    refine lv_aload_n hx hb dL_law_383 rfl (lv_at hl 1 rfl) ?_
    refine lv_aload_n hx hb dL_law_384 rfl (lv_at hl 2 rfl) ?_
    refine lv_bipush (v := nI 64) hx hb dL_law_385 (by decide +kernel) ?_
    have hPc := hP.sub (ws' := [(h0, .inr (0, [.ref h1, .int (nI 64)])), (h1, .inl (d0, 64, .inl g)), (h2, .inl (d1, 64, .inl g))]) [0, 1, 2] rfl
    have hDc := hD.sub (ws' := [(h0, .inr (0, [.ref h1, .int (nI 64)])), (h1, .inl (d0, 64, .inl g)), (h2, .inl (d1, 64, .inl g))]) [0, 1, 2] (by decide) rfl
    have hKc := hK.sub (tys' := [(d0, .int), (d1, .int)]) [0, 1] rfl
    have hFc := va_free (wc := [(h0, .inr (0, [.ref h1, .int (nI 64)])), (h1, .inl (d0, 64, .inl g)), (h2, .inl (d1, 64, .inl g))]) hD hS hA [0, 1, 2] rfl
    refine va_calli (va_runS (As := [.ref h0, .ref h2, .int (nI 64)]) (rest := []) ⟨hx, hb, hml, hown, hts⟩ (met_stands l D _ h0 h1 h2 d0 d1 (nI 64) g) (va_cwS 3 hts (lw_S q54 q55 q0 q56) rfl rfl rfl (by decide +kernel) ⟨Nat.le_of_ble_eq_true rfl, Nat.le_of_ble_eq_true rfl⟩) ⟨ns_fb, ns_pr hPc hKc hDc⟩ rfl rfl hl.1 rfl (lv_room (Nat.le_of_ble_eq_true rfl)) dL_law_387 ⟨Nat.le_of_ble_eq_true rfl, Nat.le_of_ble_eq_true rfl⟩) hS (fun q _ h => hFc q h) hFc (fun r_3 ua ta H1 locs ht hvm hw hB hz1 hk1 hS => ?_)
    try dsimp only at hw
    obtain ⟨hP1, hK1, hD1⟩ := hB
    rw [ht] at hP1
    obtain ⟨hP, hD⟩ := va_join (wr := []) (w1 := [(h0, .inr (0, [.ref h1, .int (nI 64)])), (h1, .inl (d0, 64, .inl g)), (h2, .inl (d1, 64, .inl g))]) hP hD [0, 1, 2] [] rfl rfl (by decide) (by decide) hk1 hFc hP1 hD1
    generalize H1 = H at hP hS ⊢
    have hP := hP.sub (ws' := [(h0, .inr (0, [.ref h1, .int (nI 64)])), (h1, .inl (d0, 64, .inl g)), (h2, .inl (d1, 64, .inl g))]) [0, 1, 2] rfl
    have hD := hD.sub (ws' := [(h0, .inr (0, [.ref h1, .int (nI 64)])), (h1, .inl (d0, 64, .inl g)), (h2, .inl (d1, 64, .inl g))]) [0, 1, 2] (by decide) rfl
    refine ns_as 1 hw ?_
    refine va_forget (fun q hq => hS.2.2 q hq) ?_
    refine W.widen (k := 600000) (n := 7290000) (Nat.le_of_ble_eq_true rfl) (Nat.le_of_ble_eq_true rfl) ?_
    exact lw_ret hx hb hr hlocks dL_law_390
  · exact absurd c_2 (by decide +kernel)
end
section
set_option maxHeartbeats 4000000 in
set_option maxRecDepth 100000 in
/-- YOUR PART: from the entry, for every script of at most 96 ints, the law comes to its end with true ('hflags': the launch's flags, for a law that throws: no stack traces) -/
theorem whole_start {p : Program} {e : Env} {s : State} {m : MethodId} {below : List Frame} {meth : Method} {c : Code} (l : Launch) (hflags : l.flags = flags0) {b L : Nat} {xs : Nat → Int32} (hL : L ≤ 96) (C0 : lw_At p s m meth c b L xs) : W p l e room_1 s m #[Value.ref b] below meth c s.heap [] 0 0 (lw_Z below #[Value.ref b] s) (entryFrame m ([Value.ref b] : List Value).toArray 8) := by
  obtain ⟨hx, hb, hr, hml, hown, hts0, hX, hbl, hlocks, hgv⟩ := id C0
  have hts : ∀ w ∈ lw_all, w.before #[Value.ref b] s = true := fun w h => hts0 w (lw_all_tbl h)
  have hA : ∀ q : Nat, s.heap.size ≤ q → ns_A s q := fun _ h => h
  have hbA : ¬ ns_A s b := Nat.not_le.mpr hbl
  obtain ⟨cN, iN, hKn⟩ := u_known (C := RX1) (T := TX1) (N := 2) (n := 2) hts in_X1 (hts _ q4)
  obtain ⟨D, hKc⟩ : ∃ D : va_G, ∀ (k : Nat) (q : vw_C), vwCl[k]? = some q → u_Kn s q.1 q.2.1 q.2.2 (D.1 k) (D.2 k) := by
    refine ⟨(fun _ => cN, fun _ => iN), ?_⟩
    intro k q hq
    match k, hq with
    | 0, hq => cases hq; exact hKn
    | k + 1, hq => simp [vwCl] at hq
  have hS : va_S (ns_A s) s.heap s.heap [] := va_S.rf
  have hK : va_K D vwCl [] s := ⟨hKc, fun k q h => by simp at h⟩
  have hP : va_P D vwCl [] s.heap := fun k q h => by simp at h
  have hD : va_D (ns_A s) [] := ⟨fun i j p q h => by simp at h, fun k q h => by simp at h⟩
  have hl := lv_entry ([.ref b]) (n := 8) (Nat.le_of_ble_eq_true rfl)
  rw [lg_entry_eq]
  generalize (lg_sl ([.ref b]) ++ List.replicate (8 - (lg_sl ([.ref b])).length) Slot.unset).toArray = ls at hl ⊢
  have hl : lv_has ls 8 [(0, .ref b)] := hl
  refine va_new (ci := 0) (fs := [.null, .int 0]) (C := RX1) (T := TX1) (N := 2) hx hb hts in_X1 tyX1 tyX1_ok hown (hts _ q3) (hts _ q4) (hts _ q1) hK hP hD hS hA rfl (fun j hj => by rcases (show j = 0 ∨ j = 1 by omega) with rfl | rfl <;> rfl) (Nat.le_of_ble_eq_true rfl) (Nat.le_of_ble_eq_true rfl) dL_law_0 (fun h0 H hP hD hS => ?_)
  have hP : va_P D vwCl [(h0, .inr (0, [.null, .int 0]))] H := hP
  have hD : va_D (ns_A s) [(h0, .inr (0, [.null, .int 0]))] := hD
  refine W.widen (k := 1) (n := 2) (by omega) (by omega) ?_
  refine lv_dup hx hb dL_law_3 rfl ?_
  have hPc := hP.sub (ws' := [(h0, .inr (0, [.null, .int 0]))]) [0] rfl
  have hDc := hD.sub (ws' := [(h0, .inr (0, [.null, .int 0]))]) [0] (by decide) rfl
  have hKc := hK.sub (tys' := []) [] rfl
  have hFc := va_free (wc := [(h0, .inr (0, [.null, .int 0]))]) hD hS hA [0] rfl
  refine va_callv (va_runI (As := []) (rest := [.ref h0]) ⟨hx, hb, hml, hown, hts⟩ (met_init l D _ h0) (cwI 0 hts (lw_meth q7) rfl rfl rfl (hts _ q1) (hts _ q5) (hts _ q6) rfl (by decide +kernel) ⟨Nat.le_of_ble_eq_true rfl, Nat.le_of_ble_eq_true rfl⟩) ⟨ns_fb, ns_pr hPc hKc hDc⟩ rfl rfl hl.1 rfl (lv_room (Nat.le_of_ble_eq_true rfl)) dL_law_4 ⟨Nat.le_of_ble_eq_true rfl, Nat.le_of_ble_eq_true rfl⟩) hS (fun q _ h => hFc q h) hFc (fun ua ta H1 locs ht hvm hw hB hz1 hk1 hS => ?_)
  obtain ⟨h1, d0⟩ := ua
  obtain ⟨hP1, hK1, hD1⟩ := hB
  rw [ht] at hP1
  obtain ⟨hP, hD⟩ := va_join (wr := []) (w1 := [(h0, .inr (0, [.ref h1, .int (nI 64)])), (h1, .inl (d0, 64, .inl (fun _ => 0)))]) hP hD [0] [] rfl rfl (by decide) (by decide) hk1 hFc hP1 hD1
  generalize H1 = H at hP hS ⊢
  have hP := hP.sub (ws' := [(h0, .inr (0, [.ref h1, .int (nI 64)])), (h1, .inl (d0, 64, .inl (fun _ => 0)))]) [0, 1] rfl
  have hD := hD.sub (ws' := [(h0, .inr (0, [.ref h1, .int (nI 64)])), (h1, .inl (d0, 64, .inl (fun _ => 0)))]) [0, 1] (by decide) rfl
  have hK : va_K D vwCl [(d0, .int)] s := va_K.moved hvm.symm hK1
  refine W.widen (k := 2) (n := 66) (by omega) (by omega) ?_
  refine lv_astore_n (lv' := [(1, .ref h0), (0, .ref b)]) hx hb dL_law_7 rfl hl (by decide) rfl (fun ls hl => ?_)
  refine lv_bipush (v := nI 64) hx hb dL_law_8 (by decide +kernel) ?_
  refine va_newa (atype := .int) (ty := .int) (a0 := (64, .inl (fun _ => 0))) (N' := 64) hx hb (hts _ q18) rfl hK hP hD hS hA (fun _ => rfl) (by decide +kernel) (by decide +kernel) (Nat.le_of_ble_eq_true rfl) (Nat.le_of_ble_eq_true rfl) (Nat.le_of_ble_eq_true rfl) dL_law_10 (fun h2 d1 H hK hP hD hS => ?_)
  have hP : va_P D vwCl [(h0, .inr (0, [.ref h1, .int (nI 64)])), (h1, .inl (d0, 64, .inl (fun _ => 0))), (h2, .inl (d1, 64, .inl (fun _ => 0)))] H := hP
  have hD : va_D (ns_A s) [(h0, .inr (0, [.ref h1, .int (nI 64)])), (h1, .inl (d0, 64, .inl (fun _ => 0))), (h2, .inl (d1, 64, .inl (fun _ => 0)))] := hD
  have hK : va_K D vwCl [(d0, .int), (d1, .int)] s := hK
  refine W.widen (k := 3) (n := 130) (by omega) (by omega) ?_
  refine lv_astore_n (lv' := [(2, .ref h2), (1, .ref h0), (0, .ref b)]) hx hb dL_law_12 rfl hl (by decide) rfl (fun ls hl => ?_)
  refine lv_bipush (v := nI 64) hx hb dL_law_13 (by decide +kernel) ?_
  refine lv_istore_n (lv' := [(3, .int (nI 64)), (2, .ref h2), (1, .ref h0), (0, .ref b)]) hx hb dL_law_15 rfl hl (by decide) rfl (fun ls hl => ?_)
  refine lv_aload_n hx hb dL_law_16 rfl (lv_at hl 2 rfl) ?_
  refine lv_aload_n hx hb dL_law_17 rfl (lv_at hl 1 rfl) ?_
  refine lv_iload_n hx hb dL_law_18 rfl (lv_at hl 0 rfl) ?_
  have hPc := hP.sub (ws' := [(h0, .inr (0, [.ref h1, .int (nI 64)])), (h1, .inl (d0, 64, .inl (fun _ => 0))), (h2, .inl (d1, 64, .inl (fun _ => 0)))]) [0, 1, 2] rfl
  have hDc := hD.sub (ws' := [(h0, .inr (0, [.ref h1, .int (nI 64)])), (h1, .inl (d0, 64, .inl (fun _ => 0))), (h2, .inl (d1, 64, .inl (fun _ => 0)))]) [0, 1, 2] (by decide) rfl
  have hKc := hK.sub (tys' := [(d0, .int), (d1, .int)]) [0, 1] rfl
  have hFc := va_free (wc := [(h0, .inr (0, [.ref h1, .int (nI 64)])), (h1, .inl (d0, 64, .inl (fun _ => 0))), (h2, .inl (d1, 64, .inl (fun _ => 0)))]) hD hS hA [0, 1, 2] rfl
  refine va_calli (va_runS (As := [.ref h0, .ref h2, .int (nI 64)]) (rest := []) ⟨hx, hb, hml, hown, hts⟩ (met_stands l D _ h0 h1 h2 d0 d1 (nI 64) (fun _ => 0)) (va_cwS 3 hts (lw_S q54 q55 q0 q56) rfl rfl rfl (by decide +kernel) ⟨Nat.le_of_ble_eq_true rfl, Nat.le_of_ble_eq_true rfl⟩) ⟨ns_fb, ns_pr hPc hKc hDc⟩ rfl rfl hl.1 rfl (lv_room (Nat.le_of_ble_eq_true rfl)) dL_law_19 ⟨Nat.le_of_ble_eq_true rfl, Nat.le_of_ble_eq_true rfl⟩) hS (fun q _ h => hFc q h) hFc (fun r_1 ua ta H1 locs ht hvm hw hB hz1 hk1 hS => ?_)
  try dsimp only at hw
  obtain ⟨hP1, hK1, hD1⟩ := hB
  rw [ht] at hP1
  obtain ⟨hP, hD⟩ := va_join (wr := []) (w1 := [(h0, .inr (0, [.ref h1, .int (nI 64)])), (h1, .inl (d0, 64, .inl (fun _ => 0))), (h2, .inl (d1, 64, .inl (fun _ => 0)))]) hP hD [0, 1, 2] [] rfl rfl (by decide) (by decide) hk1 hFc hP1 hD1
  generalize H1 = H at hP hS ⊢
  have hP := hP.sub (ws' := [(h0, .inr (0, [.ref h1, .int (nI 64)])), (h1, .inl (d0, 64, .inl (fun _ => 0))), (h2, .inl (d1, 64, .inl (fun _ => 0)))]) [0, 1, 2] rfl
  have hD := hD.sub (ws' := [(h0, .inr (0, [.ref h1, .int (nI 64)])), (h1, .inl (d0, 64, .inl (fun _ => 0))), (h2, .inl (d1, 64, .inl (fun _ => 0)))]) [0, 1, 2] (by decide) rfl
  refine ns_as 1 hw ?_
  refine lv_if_ne (tgt := 27) hx hb dL_law_22 (by decide) (fun c_2 => ?_) (fun c_2 => ?_)
  · refine lv_iconst (v := nI 0) hx hb dL_law_27 (by decide +kernel) ?_
    refine lv_istore (lv' := [(4, .int (nI 0)), (3, .int (nI 64)), (2, .ref h2), (1, .ref h0), (0, .ref b)]) hx hb dL_law_28 hl (by decide) rfl (fun ls hl => ?_)
    refine lw_fst hL C0 hK (fun f hf H locs ls hP hD hS hl => ?_) 64 0 (fun _ => 0) rfl ns_bd_0 H locs ls hP hD hS (lv_sub hl [4, 3, 2, 1, 0] rfl)
    refine lv_aload_n hx hb dL_law_72 rfl (lv_at hl 1 rfl) ?_
    refine lv_aload_n hx hb dL_law_73 rfl (lv_at hl 2 rfl) ?_
    refine lv_iload_n hx hb dL_law_74 rfl (lv_at hl 3 rfl) ?_
    have hPc := hP.sub (ws' := [(h0, .inr (0, [.ref h1, .int (nI 64)])), (h1, .inl (d0, 64, .inl f)), (h2, .inl (d1, 64, .inl f))]) [0, 1, 2] rfl
    have hDc := hD.sub (ws' := [(h0, .inr (0, [.ref h1, .int (nI 64)])), (h1, .inl (d0, 64, .inl f)), (h2, .inl (d1, 64, .inl f))]) [0, 1, 2] (by decide) rfl
    have hKc := hK.sub (tys' := [(d0, .int), (d1, .int)]) [0, 1] rfl
    have hFc := va_free (wc := [(h0, .inr (0, [.ref h1, .int (nI 64)])), (h1, .inl (d0, 64, .inl f)), (h2, .inl (d1, 64, .inl f))]) hD hS hA [0, 1, 2] rfl
    refine va_calli (va_runS (As := [.ref h0, .ref h2, .int (nI 64)]) (rest := []) ⟨hx, hb, hml, hown, hts⟩ (met_stands l D _ h0 h1 h2 d0 d1 (nI 64) f) (va_cwS 3 hts (lw_S q54 q55 q0 q56) rfl rfl rfl (by decide +kernel) ⟨Nat.le_of_ble_eq_true rfl, Nat.le_of_ble_eq_true rfl⟩) ⟨ns_fb, ns_pr hPc hKc hDc⟩ rfl rfl hl.1 rfl (lv_room (Nat.le_of_ble_eq_true rfl)) dL_law_75 ⟨Nat.le_of_ble_eq_true rfl, Nat.le_of_ble_eq_true rfl⟩) hS (fun q _ h => hFc q h) hFc (fun r_3 ua ta H1 locs ht hvm hw hB hz1 hk1 hS => ?_)
    try dsimp only at hw
    obtain ⟨hP1, hK1, hD1⟩ := hB
    rw [ht] at hP1
    obtain ⟨hP, hD⟩ := va_join (wr := []) (w1 := [(h0, .inr (0, [.ref h1, .int (nI 64)])), (h1, .inl (d0, 64, .inl f)), (h2, .inl (d1, 64, .inl f))]) hP hD [0, 1, 2] [] rfl rfl (by decide) (by decide) hk1 hFc hP1 hD1
    generalize H1 = H at hP hS ⊢
    have hP := hP.sub (ws' := [(h0, .inr (0, [.ref h1, .int (nI 64)])), (h1, .inl (d0, 64, .inl f)), (h2, .inl (d1, 64, .inl f))]) [0, 1, 2] rfl
    have hD := hD.sub (ws' := [(h0, .inr (0, [.ref h1, .int (nI 64)])), (h1, .inl (d0, 64, .inl f)), (h2, .inl (d1, 64, .inl f))]) [0, 1, 2] (by decide) rfl
    refine ns_as 1 hw ?_
    refine lv_if_ne (tgt := 83) hx hb dL_law_78 (by decide) (fun c_4 => ?_) (fun c_4 => ?_)
    · refine lv_bipush (v := nI 64) hx hb dL_law_83 (by decide +kernel) ?_
      refine lv_istore (lv' := [(4, .int (nI 64)), (0, .ref b), (1, .ref h0), (2, .ref h2), (3, .int (nI 64))]) hx hb dL_law_85 hl (by decide) rfl (fun ls hl => ?_)
      exact lw_calls hL C0 hK (fun n f h2n hn hf => lw_end hL C0 hK n f h2n hn hf) 16 64 64 f rfl (by decide) (by decide) hf H locs ls hP hD hS (lv_sub hl [1, 2, 3, 4, 0] rfl)
    · exact absurd c_4 (by decide +kernel)
  · exact absurd c_2 (by decide +kernel)
-- ===== YOUR PART ENDS =====
set_option maxHeartbeats 4000000 in
theorem lw_walk (l : Launch) (hflags : l.flags = flags0) (b : Addr) (xs : List Int32) : MetFree l x (headSpec (Jvm.Cond.code x code maxLocals ret :: tables_1) room_1) (lw_P b xs) (fun _ _ _ _ _ => True) lw_Q := by
  refine MetFree.of_bodyS (code := code) (maxLocals := maxLocals) (ret := ret) (by decide) ?_ ?_
  · intro args s m h hn
    obtain ⟨meth, c, h1, h2, h3, h4, h5, h6, -, -⟩ := Cond.code_spec hn (atoms_spec (ws := Jvm.Cond.code x code maxLocals ret :: tables_1) h _ List.mem_cons_self)
    exact ⟨meth, c, h1, h2, h3, h4, h5, h6⟩
  · intro p e s m args below meth c s₁ B hml0 hP _
    obtain ⟨rfl, hx, hbd, hgv⟩ := hP
    obtain ⟨scr, harrAt, hlist, hof, hsmall⟩ := hx
    obtain ⟨hcb, hkn, -, -⟩ := State.arrayAt?_spec harrAt
    have hown : s.vm.findClass R_law = some m.cls := findClass_of_methodNamed B.named
    have hts0 : ∀ c ∈ (Jvm.Cond.code x code maxLocals ret :: tables_1), c.before #[Value.ref b] s = true := atoms_spec (ws := Jvm.Cond.code x code maxLocals ret :: tables_1) B.pre
    have hts : ∀ w ∈ lw_tbl, w.before #[Value.ref b] s = true := k2_hts_sels lw_privs (fun w hw => hts0 w (List.mem_cons_of_mem _ hw)) lw_privs_ok
    have hml : c.maxLocals = 8 := B.maxLocals_eq (hts0 _ List.mem_cons_self)
    have X₀ : Stand p l e room_1 s m #[Value.ref b] below meth c s₁ [] 0 0 := Stand.of_body B
    have hh0 : s₁.heap = s.heap := by rw [B.state]; rfl
    have hsz : scr.slots.size = xs.length := by rw [← Array.length_toList, hlist, List.length_map]
    have hval : ∀ j : Nat, j < xs.length → scr.slots[j]? = some (.int (xs.getD j 0)) := fun j hj => by
      rw [← Array.getElem?_toList, hlist]
      simp [hj]
    have hbl : b < s.heap.size := (Array.getElem?_eq_some_iff.mp hcb).1
    have hX : va_X b xs.length (fun j => xs.getD j 0) s s.heap := ⟨scr, hcb, hof, hkn, hsz, hval⟩
    have K : W p l e room_1 s m #[Value.ref b] below meth c s₁.heap [] 0 0 (lw_Z below #[Value.ref b] s) (entryFrame m ([Value.ref b] : List Value).toArray 8) := by
      rw [hh0]
      exact whole_start l hflags hbd ⟨B.exec, B.bytes, B.returns, hml, hown, hts, hX, hbl, B.notSynchronized, hgv⟩
    obtain ⟨t, a1, o, b1, b2, b3⟩ := K s₁ rfl X₀
    exact ⟨t, o, a1, b1, b2, b3⟩
theorem lw_pre_spec {args : Array Value} {s : State} (h : (Jvm.Cond.and given_1 narrow_1).before args s = true) (hr : rest_1_c.before args s = true) : ∃ (b : Addr) (xs : List Int32), lw_P b xs args s := by
  have hs := flat_of_before _ h
  have hq := flat_of_before _ hr
  have hc : (Cond.count 1).before args s = true := hs _ (by decide +kernel)
  have harr : (Cond.arrayOf (.arg 0) .int).before args s = true := hs _ (by decide +kernel)
  have hle : (Cond.le (.length (.arg 0)) (.int 96)).before args s = true := hs _ (by decide +kernel)
  have hlen : (Cond.isInt (.length (.arg 0))).before args s = true := hq _ (by decide +kernel)
  have hall : (Cond.all (.arg 0) (.isInt (.elem (.arg 0) (.index 0)))).before args s = true := hq _ (by decide +kernel)
  obtain ⟨b, xs, hb, hx⟩ := State.ints_of_pre rfl harr hlen hall
  have hsm : xs.length < 2 ^ 31 := hx.choose_spec.2.2.2
  have hev : (Term.length (.arg 0)).eval args s none [] s = some (.int xs.length.toInt32) := hx.length_eval hb
  have hv := Cond.le_ints hev (show (Term.int 96).eval args s none [] s = some (.int 96) from rfl)
  have hd : xs.length.toInt32 ≤ 96 := by
    simpa [Cond.before, Cond.holds, hv] using hle
  have hN : xs.length ≤ 96 := (Int32.ofNat_le_ofNat hsm (by decide)).mp (show Int32.ofNat xs.length ≤ Int32.ofNat 96 from hd)
  exact ⟨b, xs, Cond.one_arg hc (show args[0]? = some (.ref b) from hb), hx, hN, h⟩
theorem lw_comes (l : Launch) (hflags : l.flags = flags0) : Comes l x (Jvm.Cond.code x code maxLocals ret :: tables_1) room_1 (fun tb e args s => Calls_1 tb e args s ∧ rest_1 tb e args s ∧ Pre_1 tb e args s)
    (fun _ _ args s o t => lw_Q args s o t) := by
  intro p e ha hc hk s m args below hf hfit hheap happ hpre
  obtain ⟨b, xs, hP⟩ := lw_pre_spec hpre.2.2 hpre.2.1
  obtain ⟨k, o, h1, h2, h3, hQ⟩ := lw_walk l hflags b xs p e ha hc hk s m args below hf ((Spec.applies_iff_loose hf).mp happ).1 hP trivial
  exact ⟨k, o, h1, h2, h3, hQ⟩
theorem lw_frame {s t : State} {o : Outcome} {args : Array Value} (h : Framed s o t [] 600000 7290000) :
    Framed s o t (fieldLocs frame_1_writes args s ++ arrayLocs frame_1_arrays args s ++ staticLocs frame_1_statics s) 600000 7290000 := h
theorem lw_limb (L : Cond) (hL : ∀ (args : Array Value) (s t : State), L.after args s (.returned (some (.int 1))) t = true) :
    ArmFor flags0 classFile x code maxLocals ret World_1 tables_1 room_1 Calls_1 rest_1 Pre_1
      (fun tb e a s o t => postC L tb e a s o t ∧ Framed s o t (fieldLocs frame_1_writes a s ++ arrayLocs frame_1_arrays a s ++ staticLocs frame_1_statics s) 600000 7290000) := by
  intro l hflags _ _ p e ha hc hk s m args below hf hfit hheap happ hpre
  obtain ⟨k, o, h1, h2, h3, rfl, hF⟩ := lw_comes l hflags p e ha hc hk s m args below hf hfit hheap happ hpre
  exact ⟨k, _, h1, h2, h3, hL args s _, lw_frame hF⟩
theorem i_vc : Claimed_1_1 ∧ Claimed_1_2 := ⟨lw_limb limb_1_1 (fun args s t => by simp [limb_1_1, Cond.after, Cond.holds, Cond.value]), lw_limb limb_1_2 (fun args s t => Cond.after_iff.mpr (by
  first | (rw [show limb_1_2 = Cond.eq .result (.int 1) from rfl, Cond.eq_ints (x := 1) (y := 1) rfl rfl]; simp; done) | (simp [limb_1_2, Cond.value, Term.eval]; done)))⟩
end
